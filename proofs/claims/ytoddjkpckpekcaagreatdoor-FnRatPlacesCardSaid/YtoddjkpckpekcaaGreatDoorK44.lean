/-
Texts of this proof, joined: PlF PlB PlG. No condition.
-/
import Derived.Test.YtoddjkpckpekcaaGreatDoorK01
import Derived.Test.YtoddjkpckpekcaaGreatDoorK02
import Derived.Test.YtoddjkpckpekcaaGreatDoorK03
import Derived.Test.YtoddjkpckpekcaaGreatDoorK04
import Derived.Test.YtoddjkpckpekcaaGreatDoorK05
import Derived.Test.YtoddjkpckpekcaaGreatDoorK06
import Derived.Test.YtoddjkpckpekcaaGreatDoorK07
import Derived.Test.YtoddjkpckpekcaaGreatDoorK08
import Derived.Test.YtoddjkpckpekcaaGreatDoorK09
import Derived.Test.YtoddjkpckpekcaaGreatDoorK10
import Derived.Test.YtoddjkpckpekcaaGreatDoorK11
import Derived.Test.YtoddjkpckpekcaaGreatDoorK12
import Derived.Test.YtoddjkpckpekcaaGreatDoorK13
import Derived.Test.YtoddjkpckpekcaaGreatDoorK14
import Derived.Test.YtoddjkpckpekcaaGreatDoorK15
import Derived.Test.YtoddjkpckpekcaaGreatDoorK16
import Derived.Test.YtoddjkpckpekcaaGreatDoorK17
import Derived.Test.YtoddjkpckpekcaaGreatDoorK18
import Derived.Test.YtoddjkpckpekcaaGreatDoorK19
import Derived.Test.YtoddjkpckpekcaaGreatDoorK20
import Derived.Test.YtoddjkpckpekcaaGreatDoorK21
import Derived.Test.YtoddjkpckpekcaaGreatDoorK22
import Derived.Test.YtoddjkpckpekcaaGreatDoorK23
import Derived.Test.YtoddjkpckpekcaaGreatDoorK24
import Derived.Test.YtoddjkpckpekcaaGreatDoorK25
import Derived.Test.YtoddjkpckpekcaaGreatDoorK26
import Derived.Test.YtoddjkpckpekcaaGreatDoorK27
import Derived.Test.YtoddjkpckpekcaaGreatDoorK28
import Derived.Test.YtoddjkpckpekcaaGreatDoorK29
import Derived.Test.YtoddjkpckpekcaaGreatDoorK30
import Derived.Test.YtoddjkpckpekcaaGreatDoorK31
import Derived.Test.YtoddjkpckpekcaaGreatDoorK32
import Derived.Test.YtoddjkpckpekcaaGreatDoorK33
import Derived.Test.YtoddjkpckpekcaaGreatDoorK34
import Derived.Test.YtoddjkpckpekcaaGreatDoorK35
import Derived.Test.YtoddjkpckpekcaaGreatDoorK36
import Derived.Test.YtoddjkpckpekcaaGreatDoorK37
import Derived.Test.YtoddjkpckpekcaaGreatDoorK38
import Derived.Test.YtoddjkpckpekcaaGreatDoorK39
import Derived.Test.YtoddjkpckpekcaaGreatDoorK40
import Derived.Test.YtoddjkpckpekcaaGreatDoorK41
import Derived.Test.YtoddjkpckpekcaaGreatDoorK42
import Derived.Test.YtoddjkpckpekcaaGreatDoorK43
import Derived.Laws.Bits64b
import Derived.WalkKit
import Derived.WalkSpells
import Derived.WalkLawsBesides
import Derived.Lib.Hide
import Derived.Deep.QuietTactic
import Derived.BigQuiet
import Derived.Deep.DeepFit
import Derived.Deep.AppendSrc
import Derived.Laws.CopyOwn
import Derived.Outline
import Derived.Deep.RegionHeld3
import Derived.Deep.DeepCutAuto
import Derived.Deep.CutRange
import Derived.Lib.Builder
namespace Go.Proofs.YtoddjkpckpekcaaGreatDoor
open Go.RowKit

theorem srcOneV {P : Program} {tx e et : TypeId} (hk : P.underlying tx = some (.slice e)) (w : World) (v : Value) (hv : IsS v) :
    Src P 1 tx (.slice (some ⟨w.heap.size, 0, none⟩) 1 1) 1 [v] (w.alloc (.cells #[v] et)) := by
  match v, hv with
  | .slice a n c, _ => exact Src.ofSlice _ hk _ _ _ _ rfl (cell_one_new _ _ _) (by simp [Value.oneCell'])
set_option maxRecDepth 100000 in
set_option maxHeartbeats 3200000 in
theorem floatPrec (x : Nat) (n : Bool) (N D : Nat) (w : World) (hx : RatP w 0 x n N D) (hD0 : 0 < D) (hD : bl D ≤ 640) (hT : DivW w) (hS : SqrW w) (hTab : TabW w) :
    Calls Tryz.prog 30 #[.pointer (some ⟨x, 0, none⟩)] w fun e w' => e = .returned (.tuple #[.int .i64 ((max (fv 2 D) (fv 5 D) : Nat) : Int), .bool (decide (D = 2 ^ fv 2 D * 5 ^ fv 5 D))]) ∧ Below w.heap.size w w' := by
  obtain ⟨vx, ux, -, rx, ox1, ox2⟩ := hx
  have hS2 := ox2.isS
  have hnD : nw D ≤ 10 := nw_b (by omega)
  have hLu : 0 < sLen ux := by rw [ox2.len, cellsW_length, wds_length]; exact nw_pos hD0
  obtain ⟨s, hs⟩ : ∃ s, s = w.heap.size := ⟨_, rfl⟩
  obtain ⟨W, hW⟩ : ∃ W, W = w.alloc (.cells #[.pointer none] 132) := ⟨_, rfl⟩
  have hWz : W.heap.size = s + 1 := by rw [hW, hs]; simp
  have hbw : Below w.heap.size w W := by rw [hW]; exact fbone _
  have rs : W.heap[s]? = some (.cells #[.pointer none] 132 (0, 0)) := by rw [hW, hs]; exact heap_alloc_new _ _
  have rxW := keep_row hbw rx
  have dg : 3 < s := by rw [hs]; exact World.block_lt_of_cell? w _ hT
  have d3 := (row_at (i := 3) rxW rfl).1
  obtain ⟨p2, hp2⟩ : ∃ p, p = tz D := ⟨_, rfl⟩
  obtain ⟨Q0, hQ0⟩ : ∃ q, q = D / 2 ^ tz D := ⟨_, rfl⟩
  have hod := od_tz hD0
  have hQod : Q0 = od D := by
    rw [hQ0]
    refine Nat.div_eq_of_eq_mul_left (Nat.two_pow_pos _) hod.1
  have hDQ : D = Q0 * 2 ^ p2 := by rw [hQod, hp2]; exact hod.1
  have hQ1 : Q0 % 2 = 1 := by rw [hQod]; exact hod.2
  have hQp : 0 < Q0 := by omega
  have hQb : bl Q0 ≤ 640 := Nat.le_trans (bl_mono (by rw [hQ0]; exact Nat.div_le_self _ _)) hD
  have hu := (ox2.rw' (wds_all _)).below hbw
  have hp2b : p2 < bl D := by rw [hp2]; exact tz_le hD0
  have HDN := Lib.hid (ratDenom x ux W d3 hS2 hLu)
  have HTZ : Hid (Calls Tryz.prog 59 #[ux] W fun e w' => e = .returned (.int .u64 (p2 : Nat)) ∧ W = w') := Lib.hid (by
    have := tzb_any ux (wds D) W hu (by rw [wv_wds]; exact hD0) (by rw [wds_length]; omega) (hTab.below hbw)
    rw [wv_wds, ← hp2] at this
    exact this)
  have HRS : Hid (Calls Tryz.prog 60 #[.slice none 0 0, ux, .int .u64 p2] W fun e w' => ∃ r, e = .returned r ∧ IsS r ∧ Fp1 s r Q0 W (.slice none 0 0) (.slice (some ⟨w'.heap.size, 0, none⟩) 1 1) (.slice none 0 0) 0 (w'.alloc (.cells #[.int .u64 1220703125] 98))) := Lib.hid (by
    refine (rsh_all ux D p2 W hu hD0 (by omega) hp2b).mono ?_
    rintro e w' ⟨r, h1, h2, h3⟩
    rw [hp2, ← hQ0] at h2
    refine ⟨r, h1, h2.isS, .first (by have := h3.size; omega) ⟨Nat.le_refl _, keep_row h3 rs, rfl⟩ (h2.mono (by omega)) (fun hc he => by have := (h2.lt hc).1; omega) (h3.mono (by omega))⟩)
  have HKK : Hid (∀ wr, Below s W wr → SqrW wr) := Lib.hid (fun wr h => by
    have k1 := World.block_lt_of_cell? w _ hS.1
    have k2 := World.block_lt_of_cell? w _ hS.2
    have hW2 := hS.below hbw
    refine ⟨?_, ?_⟩
    · rw [h.cell (p := ⟨1, 0, none⟩) (by rw [hs]; exact k1)]; exact hW2.1
    · rw [h.cell (p := ⟨2, 0, none⟩) (by rw [hs]; exact k2)]; exact hW2.2)
  have HTW := Lib.hid (hT.below hbw)
  have HBW := Lib.hid hbw
  have HPL := Lib.hid (And.intro hDQ (And.intro hQ1 (And.intro hQp hQb)))
  have hp2n : p2 ≤ 640 := by omega
  have hs0 : 0 < s := by omega
  have HD0 := Lib.hid hD0
  clear hp2 hQ0 hod hQod hDQ hQ1 hQp hQb hu hp2b ox1 ox2 rx rxW rs hT hS hTab hbw hD hD0 hnD hLu
  subst hs
  go_enter_defers Tryz.func30, Tryz.ntmps30
  go_wp2_with fail
  refine (getStack_any _).mono ?_
  rintro _ _ ⟨rfl, rfl⟩
  rw [← hW]
  clear hW
  go_wp2_with fail
  refine HDN.out.mono ?_
  rintro _ _ ⟨rfl, rfl⟩
  go_wp2_with fail
  refine HTZ.out.mono ?_
  rintro _ _ ⟨rfl, rfl⟩
  go_wp2_with fail
  refine HRS.out.mono ?_
  rintro _ w1 ⟨q, rfl, hSq, h1⟩
  have H1 := Lib.hid h1
  clear h1 HRS
  go_wp2
  go_loopw [8, 9, 11] (fun tab f r wr => ∃ k, k ≤ 5 ∧ IsS tab ∧ IsS f ∧ IsS r ∧ sLen tab = k ∧ Fp1 w.heap.size q Q0 W tab f r k wr) (fun tab _ _ _ => 6 - sLen tab)
  case atStart => exact ⟨0, by decide, IsS.nil, IsS.mk (Nat.le_refl _), IsS.nil, rfl, H1.out⟩
  case round =>
    obtain ⟨k, hk, hSt, hSf, hSr, hLt, h⟩ := hrel
    obtain ⟨_, _, _, _, -, hd⟩ := h.div hk HPL.out.2.2.1 HPL.out.2.2.2 HTW.out dg
    have HD := Lib.hid hd
    clear hd h
    go_wp2_with fail
    refine HD.out.mono ?_
    rintro _ w2 ⟨t', r', rfl, hSt', hSr', hLr, h2⟩
    have H2 := Lib.hid h2
    clear h2
    obtain ⟨R, hR⟩ : ∃ R, R = Q0 % 5 ^ (13 * 2 ^ k) := ⟨_, rfl⟩
    rw [← hR] at hLr
    obtain ⟨l, hl⟩ : ∃ l, l = nw R := ⟨_, rfl⟩
    rw [← hl] at hLr
    by_cases hz : R = 0
    · have hl0 : l = 0 := by rw [hl, hz]; exact nw_zero
      have t1 : ((l : Int) != 0) = false := by rw [hl0]; rfl
      obtain ⟨hk4, hn10⟩ := tab_bd HPL.out.2.2.1 HPL.out.2.2.2 (hR.symm.trans hz)
      obtain ⟨xs, hxl, hox, hop⟩ := (H2.out.grow (fbone (.cells #[u9] 85))).open
      have hle := H2.out.le
      have HOP := Lib.hid hop
      have HOX := Lib.hid hox
      have HN := Lib.hid hn10
      have HXL := Lib.hid hxl
      have HLE := Lib.hid hle
      clear hz hl0 hl hR hop hox hn10 hxl hle
      go_wp2_with (at_builtin; refine wpList_append_O rfl _ _ _ _ rfl elemT2 w.heap.size _ _ rfl HOX.out _ rfl 1 [u9] (srcOneV Tryz.underlying105 w2 u9 hSf) ?c3 ?c4 ?c5 ?_)
      case c3 => rw [HXL.out]; unfold maxLen; omega
      case c4 => rw [HXL.out]; omega
      case c5 => simp; have := HLE.out.1; omega
      rintro tab' w3 ho hb hon hat hc0
      obtain ⟨hSt2, hLt2, hq2⟩ := HOP.out tab' w3 ho hb hon (by simpa using hat) hc0 hs0 HN.out (HKK.out w3 ((HLE.out.2.trans ((fbone _).mono HLE.out.1)).trans hb))
      have HQ2 := Lib.hid hq2
      clear ho hb hon hat hc0 hq2
      go_wp2_with fail
      refine HQ2.out.mono ?_
      rintro _ w4 ⟨f', rfl, hSf', h4⟩
      have H4 := Lib.hid h4
      clear h4
      go_wp2
      go_roundw
      case rel => exact ⟨k + 1, by omega, hSt2, hSf', hSr', hLt2, H4.out⟩
      case measure => omega
    · have hl0 : 0 < l := by rw [hl]; exact nw_pos (Nat.pos_of_ne_zero hz)
      have t1 : ((l : Int) != 0) = true := by
        unfold bne
        rw [show ((l : Int) == 0) = false from beq_eq_false_iff_ne.2 (by omega)]; rfl
      have H5 := Lib.hid (H2.out.to2 HPL.out.2.2.1)
      clear hz hl0 hl hR H2 HD H1
      go_wp2
      go_loopw [6, 10, 11, 12, 13] (fun q t r p i wr => ∃ (j P : Nat), j ≤ k ∧ i = .int .i64 ((j : Int) - 1) ∧ p = .int .u64 P ∧ P ≤ 640 ∧ IsS q ∧ IsS t ∧ IsS r ∧ Fp2 w.heap.size Q0 W u8 k q t r P wr) (fun _ _ _ _ i _ => (intOf i + 1).toNat)
      case atStart => exact ⟨k, 0, Nat.le_refl _, rfl, rfl, by decide, hSq, IsS.nil, hSr', H5.out⟩
      case round =>
        obtain ⟨j, P, hj, rfl, rfl, hP, hSq2, hSt2, hSr2, h⟩ := hrel
        have HH := Lib.hid h
        clear h
        rcases Nat.eq_zero_or_pos j with hj0 | hj0
        · have t2 : decide ((0 : Int) ≤ (j : Int) - 1) = false := decide_eq_false (by omega)
          have t2' : ¬ (0 : Int) ≤ (j : Int) - 1 := by omega
          have hj0' := Lib.hid hj0
          clear hj0
          have H9 := Lib.hid HH.out
          clear HH H5
          go_wp2
          go_loopw [6, 10, 11, 12] (fun q t r p wr => ∃ P : Nat, p = .int .u64 P ∧ P ≤ 640 ∧ IsS q ∧ IsS t ∧ IsS r ∧ Fp2 w.heap.size Q0 W u8 k q t r P wr) (fun _ _ _ p _ => 700 - (intOf p).toNat)
          case atStart => exact ⟨P, rfl, hP, hSq2, hSt2, hSr2, H9.out⟩
          case round =>
            obtain ⟨P3, rfl, hP3, hSq4, hSt4, hSr4, h⟩ := hrel
            have HH := Lib.hid h
            clear h
            go_wp2_with fail
            refine (natFive_any _).mono ?_
            rintro _ w5 ⟨f5, rfl, hf5, hb5⟩
            have hSf5 := hf5.isS
            have HDV := Lib.hid (HH.out.five hf5 hb5 HPL.out.2.2.2 HTW.out dg)
            clear hf5 hb5
            go_wp2_with fail
            refine HDV.out.mono ?_
            rintro _ w6 ⟨t2, r2, rfl, hSt5, hSr5, R2, hLr2, h6, h7, h8⟩
            have H6 := Lib.hid h6
            have H7 := Lib.hid h7
            have H8 := Lib.hid h8
            clear h6 h7 h8
            obtain ⟨l2, hl2⟩ : ∃ l, l = nw R2 := ⟨_, rfl⟩
            rw [← hl2] at hLr2
            by_cases hz2 : R2 = 0
            · have hl0 : l2 = 0 := by rw [hl2, hz2]; exact nw_zero
              have t3 : ((l2 : Int) != 0) = false := by rw [hl0]; rfl
              obtain ⟨hPe, hset⟩ := H8.out hz2
              obtain ⟨P2, hP2⟩ : ∃ P2, P2 = P3 + 1 := ⟨_, rfl⟩
              rw [← hP2] at hPe hset
              have e5 : (P3 : Int) + 1 = (P2 : Int) := by omega
              have e6 : IntKind.u64.wrap (P2 : Int) = (P2 : Int) := by rw [IntKind.wrap_u64]; omega
              have HSET := Lib.hid hset
              have HP2 := Lib.hid hP2
              clear hset hl0 hl2 hz2 hP2
              go_wp2_with fail
              refine HSET.out.mono ?_
              rintro _ w7 ⟨q2, rfl, hSq5, h9⟩
              have H10 := Lib.hid h9
              clear h9
              go_wp2
              go_roundw
              case rel => exact ⟨P2, rfl, hPe, hSq5, hSt5, hSr5, H10.out⟩
              case measure =>
                have := HP2.out
                simp [intOf]; omega
            · have hl0 : 0 < l2 := by rw [hl2]; exact nw_pos (Nat.pos_of_ne_zero hz2)
              have t3 : ((l2 : Int) != 0) = true := by
                unfold bne
                rw [show ((l2 : Int) == 0) = false from beq_eq_false_iff_ne.2 (by omega)]; rfl
              obtain ⟨Q, o, hQe, hQp, hRW, hst, hbl, hle⟩ := H6.out.fin
              obtain ⟨k1, k2, k3⟩ := fp_law HPL.out.1 HD0.out HPL.out.2.1 hQe (H7.out hz2 rfl)
              obtain ⟨M, hM⟩ : ∃ M, M = max p2 P3 := ⟨_, rfl⟩
              have hM1 : max (p2 : Int) (P3 : Int) = (M : Int) := by omega
              have hM2 : M ≤ 640 := by omega
              have hM3 : IntKind.i64.wrap (M : Int) = (M : Int) := wrap_i64_id (by omega) (by omega)
              have hcmp : (cmpN Q 1 == 0) = decide (D = 2 ^ fv 2 D * 5 ^ fv 5 D) := by
                rw [← decide_eq_decide.2 k3]
                unfold cmpN
                rcases Nat.lt_trichotomy Q 1 with h | h | h
                · omega
                · rw [if_neg (by omega), if_neg (by omega), decide_eq_true h]; rfl
                · rw [if_neg (by omega), if_pos (by omega), decide_eq_false (by omega)]; rfl
              have HM : Hid (M = max (fv 2 D) (fv 5 D)) := Lib.hid (by rw [k1, k2]; exact hM)
              obtain ⟨t, ht⟩ : ∃ t, t = decide (D = 2 ^ fv 2 D * 5 ^ fv 5 D) := ⟨_, rfl⟩
              have HTT := Lib.hid ht
              rw [← ht] at hcmp
              obtain ⟨c, hc⟩ : ∃ c, c = cmpN Q 1 := ⟨_, rfl⟩
              have hSq6 := hRW.isS
              have hQn : nw Q ≤ 1000 := by
                have h1 : Q ≤ Q0 := by rw [hQe]; exact Nat.le_mul_of_pos_right _ (Nat.pow_pos (by decide))
                exact Nat.le_trans (nw_b (k := 10) (Nat.le_trans (bl_mono h1) (by have := HPL.out.2.2.2; omega))) (by decide)
              have HCM : Hid (∀ v w', Own w' w6.heap.size 98 v (cellsW (wds 1)) → Below w6.heap.size w6 w' → Calls Tryz.prog 65 #[u6, v] w' fun e w2 => e = .returned (.int .i64 c) ∧ ∃ n, w2 = w'.drewN n) := Lib.hid (fun v w' h1 h2 => by
                rw [hc]
                exact cmp_any u6 v Q 1 w' (hRW.below h2) (h1.rw' (wds_all _)) (by omega) (by decide))
              rw [← hc] at hcmp
              have HST := Lib.hid hst
              have HBL := Lib.hid (HBW.out.trans hbl)
              have HLE := Lib.hid hle
              clear hl0 hl2 hz2 hQe hQp hRW hst hbl hle k1 k2 k3 hM hc ht hQn
              go_wp2_with fail
              refine (natOne_any _).mono ?_
              rintro _ w7 ⟨v1, rfl, hv1, hb7⟩
              have hSv1 := hv1.isS
              have HCC := Lib.hid (HCM.out v1 w7 hv1 hb7)
              have HST7 := Lib.hid (HST.out.below hb7)
              have HB7 := Lib.hid (HBL.out.trans (hb7.mono HLE.out))
              clear hv1 hb7 HCM
              go_wp2_with fail
              refine HCC.out.mono ?_
              rintro _ _ ⟨rfl, nd, rfl⟩
              match o, HST7 with
              | none, HST7 =>
                have HR := Lib.hid (free_d w.heap.size .returning (w7.drewN nd) (row_at (i := 0) HST7.out.2.1 rfl).1)
                go_wp2
                refine leaves_cons (f := 58) (args := #[.pointer (some ⟨w.heap.size, 0, none⟩)]) (by simp) (by simp [go_sem]) ?_
                refine HR.out.mono ?_
                rintro e u' w'' ⟨rfl, rfl, rfl⟩
                simp [Leaves, settle, results, Tryz.results30, go_sem]
                exact ⟨⟨by rw [HM.out], HTT.out⟩, undrewN' HB7.out⟩
              | some (q0, v0), HST7 =>
                have HR := Lib.hid (free_some w.heap.size q0 v0 .returning (w7.drewN nd) HST7.out.2.2.1 HST7.out.2.2.2.1 (HST7.out.2.2.2.2.choose_spec.1).isS)
                have Q := Lib.hid ((undrewN' (n := nd) HB7.out).setCell (p := ⟨q0, 0, none⟩) HST7.out.2.1 (subS v0 0 0))
                go_wp2
                refine leaves_cons (f := 58) (args := #[.pointer (some ⟨w.heap.size, 0, none⟩)]) (by simp) (by simp [go_sem]) ?_
                refine HR.out.mono ?_
                rintro e u' w'' ⟨rfl, rfl, rfl⟩
                simp [Leaves, settle, results, Tryz.results30, go_sem]
                exact ⟨⟨by rw [HM.out], HTT.out⟩, Q.out⟩
        · obtain ⟨i, hi⟩ : ∃ i, j = i + 1 := ⟨j - 1, by omega⟩
          have e0 : (j : Int) - 1 = (i : Int) := by omega
          have hik : i < k := by omega
          have hi4 : i ≤ 4 := by omega
          obtain ⟨f, hSf2, hcell, hdv⟩ := HH.out.elem hik hk HPL.out.2.2.2 HTW.out dg
          have HDV := Lib.hid hdv
          obtain ⟨S, hS⟩ : ∃ S, S = 2 ^ i := ⟨_, rfl⟩
          have hS2 : (2 : Int) ^ i = (S : Int) := by rw [hS]; push_cast; rfl
          have hSb : S ≤ 16 := by rw [hS]; exact Nat.le_trans (Nat.pow_le_pow_right (n := 2) (by decide) hi4) (by decide)
          obtain ⟨T, hT⟩ : ∃ T, T = 13 * S := ⟨_, rfl⟩
          have e2 : IntKind.u64.wrap (S : Int) = (S : Int) := by rw [IntKind.wrap_u64]; omega
          have e3 : 13 * (S : Int) = (T : Int) := by omega
          have e4 : IntKind.u64.wrap (T : Int) = (T : Int) := by rw [IntKind.wrap_u64]; omega
          have HT13 := Lib.hid (show 13 * 2 ^ i = T by rw [hT, hS])
          have HI := Lib.hid hi
          clear hdv hS hT hi hj0
          go_wp2_with fail
          refine HDV.out.mono ?_
          rintro _ w5 ⟨t2, r2, rfl, hSt3, hSr3, R2, hLr2, h6, -, h7⟩
          have H6 := Lib.hid h6
          have H7 := Lib.hid h7
          clear h6 h7 hcell
          obtain ⟨l2, hl2⟩ : ∃ l, l = nw R2 := ⟨_, rfl⟩
          rw [← hl2] at hLr2
          by_cases hz2 : R2 = 0
          · have hl0 : l2 = 0 := by rw [hl2, hz2]; exact nw_zero
            have t3 : ((l2 : Int) == 0) = true := by rw [hl0]; rfl
            obtain ⟨hPe, hset⟩ := H7.out hz2
            rw [HT13.out] at hPe hset
            obtain ⟨P2, hP2⟩ : ∃ P2, P2 = P + T := ⟨_, rfl⟩
            rw [← hP2] at hPe hset
            have e5 : (P : Int) + (T : Int) = (P2 : Int) := by omega
            have e6 : IntKind.u64.wrap (P2 : Int) = (P2 : Int) := by rw [IntKind.wrap_u64]; omega
            have HSET := Lib.hid hset
            clear hset hl0 hl2 hz2 hP2
            go_wp2_with fail
            refine HSET.out.mono ?_
            rintro _ w6 ⟨q2, rfl, hSq3, h8⟩
            have H8 := Lib.hid h8
            clear h8
            go_wp2
            go_roundw
            case rel => exact ⟨i, P2, by omega, rfl, rfl, hPe, hSq3, hSt3, hSr3, H8.out⟩
            case measure => simp [intOf]; omega
          · have hl0 : 0 < l2 := by rw [hl2]; exact nw_pos (Nat.pos_of_ne_zero hz2)
            have t3 : ((l2 : Int) == 0) = false := by rw [beq_eq_false_iff_ne]; omega
            clear hl0 hl2 hz2
            go_wp2
            go_roundw
            case rel => exact ⟨i, P, by omega, rfl, rfl, hP, hSq2, hSt3, hSr3, H6.out⟩
            case measure => simp [intOf]; omega
theorem ks1P {W X : World} {k T : Nat} {a b c : Value} (h0 : W.heap[k]? = some (.cells #[a, b, c] T (0, 0))) (h : Below W.heap.size W X) :
    Below W.heap.size W X ∧ X.cell? ⟨k, 2, none⟩ = some c := ⟨h, (row3 (keep_row h h0)).2.2.1⟩
set_option maxRecDepth 100000 in
set_option maxHeartbeats 1600000 in
theorem spPlaces (n : Bool) (a d : Value) (D : Nat) (w : World) (_hSa : IsS a) (hd : NatV w d D) (h0 : 0 < D) (hD : bl D ≤ 2000) :
    Calls Tryz.prog 11 #[.agg #[.bool n, a, d]] w fun e w' => e = .returned (.tuple #[.int .i64 ((max (fv 2 D) (fv 5 D) : Nat) : Int), .bool (decide (D = 2 ^ fv 2 D * 5 ^ fv 5 D))]) ∧ Below w.heap.size w w' := by
  have hS := hd.isS
  have hab := (Below.refl w.heap.size w).alloc (Nat.le_refl _) (.cells #[.bool n, a, d] 31)
  obtain ⟨X, hX⟩ : ∃ X, X = w.alloc (.cells #[.bool n, a, d] 31) := ⟨_, rfl⟩
  have hr1 : X.heap[w.heap.size]? = some (.cells #[.bool n, a, d] 31 (0, 0)) := by rw [hX]; exact row_chain11
  rw [← hX] at hab
  have hXs := hab.size
  have NX := Lib.hid (hd.below hab)
  have k2 : fv 2 D ≤ 2000 := by
    obtain ⟨m, h1, h2⟩ := fv_spec (p := 2) (by decide) h0
    have := fv_bl (p := 2) (by decide) (Nat.pos_of_ne_zero fun h => h2 (by rw [h])) h1
    omega
  have k5 : fv 5 D ≤ 2000 := by
    obtain ⟨m, h1, h2⟩ := fv_spec (p := 5) (by decide) h0
    have := fv_bl (p := 5) (by decide) (Nat.pos_of_ne_zero fun h => h2 (by rw [h])) h1
    omega
  have HF2 : Hid (∀ w', Below X.heap.size X w' → Calls Tryz.prog 31 #[d, .int .i64 2] w' fun e w3 => e = .returned (.int .i64 (fv 2 D)) ∧ Below X.heap.size X w3) := Lib.hid (fun w' h => (spFactors d D 2 w' (NX.out.below h) h0 (by omega) (by decide) (by decide)).mono fun _ _ h2 => ⟨h2.1, bthen h h2.2⟩)
  have HF5 : Hid (∀ w', Below X.heap.size X w' → Calls Tryz.prog 31 #[d, .int .i64 5] w' fun e w3 => e = .returned (.int .i64 (fv 5 D)) ∧ Below X.heap.size X w3) := Lib.hid (fun w' h => (spFactors d D 5 w' (NX.out.below h) h0 (by omega) (by decide) (by decide)).mono fun _ _ h2 => ⟨h2.1, bthen h h2.2⟩)
  have hcmp : (cmpN D (2 ^ fv 2 D * 5 ^ fv 5 D) == 0) = decide (D = 2 ^ fv 2 D * 5 ^ fv 5 D) := by
    unfold cmpN
    rcases Nat.lt_trichotomy D (2 ^ fv 2 D * 5 ^ fv 5 D) with h | h | h
    · rw [if_pos h, decide_eq_false (by omega)]; rfl
    · rw [if_neg (by omega), if_neg (by omega), decide_eq_true h]; rfl
    · rw [if_neg (by omega), if_pos (by omega), decide_eq_false (by omega)]; rfl
  obtain ⟨p, hp⟩ : ∃ p, p = fv 2 D := ⟨_, rfl⟩
  obtain ⟨q, hq⟩ : ∃ q, q = fv 5 D := ⟨_, rfl⟩
  rw [← hp] at k2 HF2 hcmp
  rw [← hq] at k5 HF5 hcmp
  rw [← hp, ← hq]
  have HP2 : Hid (∀ w', Below X.heap.size X w' → Calls Tryz.prog 34 #[.int .i64 2, .int .i64 p] w' fun e w3 => ∃ r, e = .returned r ∧ NatV w3 r (2 ^ p) ∧ Below X.heap.size X w3) := Lib.hid (fun w' h => (spPower 2 p w' (by decide) (by omega)).mono fun _ _ ⟨r, h1, h2⟩ => ⟨r, h1, h2.1, bthen h h2.2⟩)
  have HP5 : Hid (∀ w', Below X.heap.size X w' → Calls Tryz.prog 34 #[.int .i64 5, .int .i64 q] w' fun e w3 => ∃ r, e = .returned r ∧ NatV w3 r (5 ^ q) ∧ Below X.heap.size X w3 ∧ Below w'.heap.size w' w3) := Lib.hid (fun w' h => (spPower 5 q w' (by decide) (by omega)).mono fun _ _ ⟨r, h1, h2⟩ => ⟨r, h1, h2.1, bthen h h2.2, h2.2⟩)
  have n1 := nl_pow (b := 2) (n := p) (by decide)
  have n2 := nl_pow (b := 5) (n := q) (by decide)
  have HMU : Hid (∀ x y w', NatV w' x (2 ^ p) → NatV w' y (5 ^ q) → Below X.heap.size X w' → Calls Tryz.prog 33 #[x, y] w' fun e w3 => ∃ r, e = .returned r ∧ NatV w3 r (2 ^ p * 5 ^ q) ∧ Below X.heap.size X w3) := Lib.hid (fun x y w' h1 h2 h => (spMul x y _ _ w' h1 h2 (by omega) (by omega)).mono fun _ _ ⟨r, h3, h4⟩ => ⟨r, h3, h4.1, bthen h h4.2⟩)
  have n3 : nl (2 ^ p * 5 ^ q) ≤ 1000000000 := Nat.le_trans (nl_le (n := 2 ^ p * 5 ^ q) (L := nl (2 ^ p) + nl (5 ^ q)) (by rw [Nat.pow_add]; exact Nat.mul_lt_mul'' (lt_nl _) (lt_nl _))) (by omega)
  have HCM : Hid (∀ y w', NatV w' y (2 ^ p * 5 ^ q) → Below X.heap.size X w' → Calls Tryz.prog 32 #[d, y] w' fun e w3 => e = .returned (.int .i64 (cmpN D (2 ^ p * 5 ^ q))) ∧ Below X.heap.size X w3) := Lib.hid (fun y w' h1 h => (spCmp d y _ _ w' (NX.out.below h) h1 (Nat.le_trans (nl_of_bl hD) (by decide)) n3).mono fun _ _ h2 => ⟨h2.1, bthen h h2.2⟩)
  obtain ⟨c, hc⟩ : ∃ c, c = cmpN D (2 ^ p * 5 ^ q) := ⟨_, rfl⟩
  rw [← hc] at hcmp HCM
  have HR := Lib.hid hr1
  have HB := Lib.hid hab
  have hcc := Below.refl X.heap.size X
  obtain ⟨M, hM⟩ : ∃ M, M = max p q := ⟨_, rfl⟩
  have hM' : max (p : Int) (q : Int) = (M : Int) := by omega
  rw [← hM]
  obtain ⟨t, ht⟩ : ∃ t, t = decide (D = 2 ^ p * 5 ^ q) := ⟨_, rfl⟩
  rw [← ht] at hcmp ⊢
  clear hd hr1 hab hp hq hc n1 n2 n3 h0 hD ht hM
  go_enter Tryz.func11, Tryz.ntmps11
  go_upto_region 1 with fail
  rw [← hX]
  clear hX
  first
    | (go_region_held3 (fun w' => Below X.heap.size X w' ∧ w'.cell? ⟨w.heap.size, 2, none⟩ = some d)
        ((refine ks1P HR.out ?_; first | assumption | exact Below.drew hcc))
        (first
          | (go_at_call 31; (with_reducible refine (HF5.out _ hb3).mono ?_); rintro _ w4 ⟨rfl, hb4⟩)
          | (go_at_call 31; (with_reducible refine (HF2.out _ (And.left (by assumption))).mono ?_); rintro _ w3 ⟨rfl, hb3⟩)))
    | fail
  all_goals
    go_upto_region 2 with fail
    first
      | (go_region_held3 (fun w' => Below X.heap.size X w' ∧ w'.cell? ⟨w.heap.size, 2, none⟩ = some d)
          ((refine ks1P HR.out ?_; first | assumption | exact Below.drew hcc | exact Below.drew hb4))
          (first
            | (go_at_call 32; (with_reducible refine (HCM.out _ _ hm7 hb7).mono ?_); rintro _ w8 ⟨rfl, hb8⟩)
            | (go_at_call 33; (with_reducible refine (HMU.out _ _ _ (hp5.below hbb6) hp6 hb6).mono ?_); rintro _ w7 ⟨rm, rfl, hm7, hb7⟩; have hSm := hm7.isS)
            | (go_at_call 34; (with_reducible refine (HP5.out _ hb5).mono ?_); rintro _ w6 ⟨r6, rfl, hp6, hb6, hbb6⟩; have hS6 := hp6.isS)
            | (go_at_call 34; (with_reducible refine (HP2.out _ (by repeat (with_reducible first | assumption | refine Below.drew ?_ | refine undrewN' ?_))).mono ?_); rintro _ w5 ⟨r5, rfl, hp5, hb5⟩; have hS5 := hp5.isS)))
      | fail
  all_goals
    go_wp2
    go_ret2
    exact ⟨rfl, HB.out.trans (hb8.mono hXs)⟩
set_option maxRecDepth 100000 in
set_option maxHeartbeats 1600000 in
theorem impPlaces (b : Bool) (v u : Value) (ns ds : List Nat) (w : World) (hv : RW w v ns) (hu : RW w u ds) (l1 : ns.length ≤ 31) (l2 : ds.length ≤ 10) (p1 : 0 < wv ds) (hT : DivW w) (hS : SqrW w) (hTab : TabW w) :
    Calls Tryz.prog 10 #[.agg #[.bool b, v, u]] w fun e w' => e = .returned (.tuple #[.int .i64 ((max (fv 2 (wv ds)) (fv 5 (wv ds)) : Nat) : Int), .bool (decide (wv ds = 2 ^ fv 2 (wv ds) * 5 ^ fv 5 (wv ds)))]) ∧ Below w.heap.size w w' := by
  have hS1 := hv.isS
  have hS2 := hu.isS
  have hab := (Below.refl w.heap.size w).alloc (Nat.le_refl _) (.cells #[.bool b, v, u] 26)
  obtain ⟨X, hX⟩ : ∃ X, X = w.alloc (.cells #[.bool b, v, u] 26) := ⟨_, rfl⟩
  have hr1 : X.heap[w.heap.size]? = some (.cells #[.bool b, v, u] 26 (0, 0)) := by rw [hX]; exact row_chain11
  rw [← hX] at hab
  obtain ⟨x0, x1, x2, -, -, -⟩ := row3 hr1
  have hXs := hab.size
  have hbd : bl (wv ds) ≤ 640 := by
    have h1 : wv ds < (2 ^ 64) ^ ds.length := wv_lt hu.lt
    rw [← Nat.pow_mul] at h1
    have := bl_le h1
    omega
  have HF := Lib.hid (rat_any b v u ns ds X (hv.below hab) (hu.below hab) (by omega) (by omega))
  have HC : Hid (∀ g w', RatP w' 0 g (b && decide (0 < wv ns)) (wv ns) (wv ds) → Below X.heap.size X w' → Calls Tryz.prog 30 #[.pointer (some ⟨g, 0, none⟩)] w' fun e w4 => e = .returned (.tuple #[.int .i64 ((max (fv 2 (wv ds)) (fv 5 (wv ds)) : Nat) : Int), .bool (decide (wv ds = 2 ^ fv 2 (wv ds) * 5 ^ fv 5 (wv ds)))]) ∧ Below w'.heap.size w' w4) := Lib.hid (fun g w' h1 h3 =>
    floatPrec g _ _ _ w' h1 p1 hbd ((hT.below hab).below h3) ((hS.below hab).below h3) ((hTab.below hab).below h3))
  have HB := Lib.hid hab
  obtain ⟨V, hV⟩ : ∃ V, V = max (fv 2 (wv ds)) (fv 5 (wv ds)) := ⟨_, rfl⟩
  obtain ⟨Y, hY⟩ : ∃ Y, Y = decide (wv ds = 2 ^ fv 2 (wv ds) * 5 ^ fv 5 (wv ds)) := ⟨_, rfl⟩
  rw [← hV, ← hY] at HC
  rw [← hV, ← hY]
  clear hV hY hv hu hab hr1 hT hS hTab p1 l1 l2 hbd
  go_enter Tryz.func10, Tryz.ntmps10
  go_upto_region 1 with fail
  rw [← hX]
  clear hX
  go_wp2_with fail
  refine HF.out.mono ?_
  rintro _ w1 ⟨g, rfl, hg, hb1⟩
  have HG := Lib.hid (hg.mono (Nat.zero_le _))
  have HB1 := Lib.hid hb1
  clear hg hb1
  go_wp2_with fail
  refine (HC.out g w1 HG.out HB1.out).mono ?_
  rintro _ w2 ⟨rfl, hb2⟩
  have HB2 := Lib.hid hb2
  clear hb2
  go_wp2
  go_ret2
  exact ⟨rfl, HB.out.trans ((HB1.out.trans (HB2.out.mono HB1.out.size)).mono hXs)⟩
set_option maxRecDepth 100000 in
set_option maxHeartbeats 1600000 in
theorem lawPlaces (b : Bool) (v1 v2 : Value) (ns ds : List Nat) (w : World) (hTab : TabW w) (_hKar : KarW w) (hT : DivW w) (hSq : SqrW w) (h1 : RW w v1 ns) (h2 : RW w v2 ds) :
    Calls Tryz.prog 3 #[.agg #[.bool b, v1, v2]] w fun e w' => e = .returned (.bool true) ∧ Below w.heap.size w w' := by
  have hS1 := h1.isS
  have hS2 := h2.isS
  have hab := (Below.refl w.heap.size w).alloc (Nat.le_refl _) (.cells #[.bool b, v1, v2] 26)
  obtain ⟨W, hW⟩ : ∃ W, W = w.alloc (.cells #[.bool b, v1, v2] 26) := ⟨_, rfl⟩
  have hrow : W.heap[w.heap.size]? = some (.cells #[.bool b, v1, v2] 26 (0, 0)) := by rw [hW]; exact box_row (Below.refl _ _)
  rw [← hW] at hab
  obtain ⟨x0, x1, x2, -, -, -⟩ := row3 hrow
  have HR := Lib.hid hrow
  have R1 := Lib.hid (h1.below hab)
  have R2 := Lib.hid (h2.below hab)
  have HTW := Lib.hid (And.intro (hT.below hab) (And.intro (hSq.below hab) (hTab.below hab)))
  have hWs := hab.size
  clear hrow h1 h2 hT hSq hTab
  go_enter Tryz.func3, Tryz.ntmps3
  go_upto_region 1 with fail
  rw [← hW]
  clear hW
  go_wp2_with fail
  refine (zzFits3_any b v1 v2 ns ds W R1.out R2.out).mono ?_
  rintro _ w1 ⟨rfl, hb1⟩
  obtain ⟨y0, y1, y2, -, -, -⟩ := row3 (keep_row hb1 HR.out)
  have bb1 := hab.trans (hb1.mono hWs)
  obtain ⟨fits, hfits⟩ : ∃ f, f = (decide (ns.length ≤ 2147483647) && decide (ds.length ≤ 2147483647)) := ⟨_, rfl⟩
  rw [← hfits]
  clear hfits
  have HB1 := Lib.hid hb1
  clear hb1
  cases fits with
  | false =>
    go_wp2
    go_ret
    exact ⟨rfl, bb1⟩
  | true =>
    go_wp2_with fail
    refine (fraction_any b v1 v2 10 ns ds w1 (R1.out.below HB1.out) (R2.out.below HB1.out) (by decide)).mono ?_
    rintro _ w2 ⟨_, rfl, bb, a1, a2, ok, rfl, hA1, hA2, hb2, hok⟩
    have HOK := Lib.hid hok
    have HB2 := Lib.hid (bthen HB1.out hb2)
    clear hok hb2
    have hr2 := keep_row HB2.out HR.out
    have ha3 := (Below.refl w2.heap.size w2).alloc (Nat.le_refl _) (.cells #[.bool bb, a1, a2] 31)
    obtain ⟨X, hX⟩ : ∃ X, X = w2.alloc (.cells #[.bool bb, a1, a2] 31) := ⟨_, rfl⟩
    have hrX : X.heap[w2.heap.size]? = some (.cells #[.bool bb, a1, a2] 31 (0, 0)) := by rw [hX]; exact box_row (Below.refl _ _)
    rw [← hX] at ha3
    have HX := Lib.hid hX
    clear hX
    have hrF := keep_row ha3 hr2
    obtain ⟨c0, c1, c2, -, -, -⟩ := row3 hrF
    obtain ⟨d0, d1, d2, -, -, -⟩ := row3 hrX
    have hWX := bthen HB2.out ha3
    have hwX := hab.trans (hWX.mono hWs)
    cases ok with
    | false =>
      go_wp2
      go_ret
      refine ⟨rfl, ?_⟩
      rw [← HX.out]
      exact hwX
    | true =>
      obtain ⟨hbb, hn30, hd30, hdp, hfr, -, hN1, hN2⟩ := HOK.out rfl
      subst hbb
      have hbd : bl (wv ds) ≤ 2000 := by
        have h1 : wv ds < (2 ^ 64) ^ ds.length := wv_lt R2.out.lt
        rw [← Nat.pow_mul] at h1
        have := bl_le h1
        omega
      have HIM := Lib.hid (impPlaces bb v1 v2 ns ds X (R1.out.below hWX) (R2.out.below hWX) (by omega) hd30 hdp (HTW.out.1.below hWX) (HTW.out.2.1.below hWX) (HTW.out.2.2.below hWX))
      have HSB : Hid (∀ w', Below X.heap.size X w' → Calls Tryz.prog 11 #[.agg #[.bool bb, a1, a2]] w' fun e w4 => e = .returned (.tuple #[.int .i64 ((max (fv 2 (wv ds)) (fv 5 (wv ds)) : Nat) : Int), .bool (decide (wv ds = 2 ^ fv 2 (wv ds) * 5 ^ fv 5 (wv ds)))]) ∧ Below w'.heap.size w' w4) := Lib.hid (fun w' h =>
        spPlaces bb a1 a2 (wv ds) w' hA1 ((hN2.below ha3).below h) hdp hbd)
      obtain ⟨V, hV⟩ : ∃ V, V = max (fv 2 (wv ds)) (fv 5 (wv ds)) := ⟨_, rfl⟩
      obtain ⟨Y, hY⟩ : ∃ Y, Y = decide (wv ds = 2 ^ fv 2 (wv ds) * 5 ^ fv 5 (wv ds)) := ⟨_, rfl⟩
      rw [← hV, ← hY] at HIM HSB
      have HWX := Lib.hid hwX
      have HRX := Lib.hid hrX
      have hXz := hwX.size
      clear hN1 hN2 hfr hn30 hd30 hdp hbd hV hY hwX hrF hrX hr2 ha3 hWX
      go_upto_region 6 with fail
      rw [← HX.out]
      go_wp2_with fail
      refine HIM.out.mono ?_
      rintro _ w3 ⟨rfl, hb3⟩
      obtain ⟨g0, g1, g2, -, -, -⟩ := row3 (keep_row hb3 HRX.out)
      have HB3 := Lib.hid hb3
      clear hb3
      go_wp2_with fail
      refine (HSB.out w3 HB3.out).mono ?_
      rintro _ w4 ⟨rfl, hb4⟩
      have HB4 := Lib.hid (HWX.out.trans ((HB3.out.trans (hb4.mono HB3.out.size)).mono hXz))
      clear hb4
      have t1 : ((V : Int) == (V : Int)) = true := by rw [beq_iff_eq]
      have t2 : (Y == Y) = true := by cases Y <;> rfl
      go_wp2
      go_ret
      exact ⟨rfl, HB4.out⟩
end Go.Proofs.YtoddjkpckpekcaaGreatDoor
