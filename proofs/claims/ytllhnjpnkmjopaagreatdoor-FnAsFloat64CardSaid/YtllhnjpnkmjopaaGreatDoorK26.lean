/-
Texts of this proof, joined: DdF. No condition.
-/
import Derived.Test.YtllhnjpnkmjopaaGreatDoorK25
import Derived.Deep.RegionHeld3
import Derived.Deep.CutRange
import Derived.Deep.DeepCutAuto
namespace Go.Proofs.YtllhnjpnkmjopaaGreatDoor
open Go.RowKit

def GuessOK (R V : Nat) (last : Bool) (qh : Nat) : Prop := qh < 18446744073709551616 ∧ R / V ≤ qh ∧ qh ≤ R / V + 1 ∧ (last = true → qh = 0)
structure DvP (q u : Value) (U V m N B s L : Nat) (o o' : Option (Nat × Value)) (w w' : World) : Prop where
  ou : Own w' B 116 u (cellsW (wdsN (U % V) N))
  oq : Own w' B 116 q (cellsW (wdsN (U / V) m))
  st : StO w' B s L o'
  sb : ∀ k, SBk s o' k → SBk s o k ∨ w.heap.size ≤ k
  below : Below B w w'
  fr : ∀ k, k < w.heap.size → ¬ SBk s o k → k ≠ sBlk u → k ≠ sBlk q → w'.heap[k]? = w.heap[k]?
def jv (J : Nat) : Int := (J : Int) - 1
set_option maxRecDepth 100000 in
set_option maxHeartbeats 6400000 in
theorem divBasic_any (q u v : Value) (qs : List Value) (U V m k B s L : Nat) (o : Option (Nat × Value)) (w : World)
    (hq : Own w B 116 q qs) (hql : qs.length = m) (hu : Own w B 116 u (cellsW (wdsN U (m + (k + 2))))) (hUl : U < 18446744073709551616 ^ (m + (k + 2))) (hv : Own w B 116 v (cellsW (wdsN V (k + 2)))) (hVl : V < 18446744073709551616 ^ (k + 2))
    (hst : StO w B s L o) (hcl : Cl o L v) (hnu : Cl o L u) (hnq : Cl o L q) (huq : 0 < sCap q → sBlk u ≠ sBlk q) (hvu : sBlk v ≠ sBlk u) (hvq : 0 < sCap q → sBlk v ≠ sBlk q) (huS : ¬ SBk s o (sBlk u)) (hqS : 0 < sCap q → ¬ SBk s o (sBlk q))
    (htop : 9223372036854775808 ≤ wdg V (k + 1)) (hut : wdg U (m + (k + 1)) < wdg V (k + 1)) (hm0 : 0 < m) (hm : m ≤ 100000) (hk : k ≤ 100000) (hL : L ≤ 100000) (hB : B ≤ w.heap.size) :
    Calls Tryz.prog 219 #[q, .pointer (some ⟨s, 0, none⟩), u, v] w fun e w' => e = .returned (.tuple #[]) ∧ ∃ o', DvP q u U V m (m + (k + 2)) B s L o o' w w' := by
  have hSq := hq.isS
  have hSu := hu.isS
  have hSv := hv.isS
  have hLq : sLen q = m := by rw [hq.len, hql]
  have hLu : sLen u = m + (k + 2) := by rw [hu.len, cellsW_length, wdsN_length]
  have hLv : sLen v = k + 2 := by rw [hv.len, cellsW_length, wdsN_length]
  obtain ⟨n, hn⟩ : ∃ n, n = k + 2 := ⟨_, rfl⟩
  obtain ⟨N, hN⟩ : ∃ N, N = m + n := ⟨_, rfl⟩
  have e1 : (N : Int) - (n : Int) = (m : Int) := by omega
  have e2 : (n : Int) - 1 = ((k + 1 : Nat) : Int) := by omega
  rw [← hn] at hLu hLv
  rw [← hN] at hLu
  have HSV := Lib.hid (save_any s B L o w hst)
  have HNT := Lib.hid (nat_any s (n + 1) B L o w hst hB (by omega) (by omega) (by omega))
  have HV := Lib.hid hv
  have HU := Lib.hid hu
  have HQ := Lib.hid hq
  have HN := Lib.hid hn
  have HNN := Lib.hid hN
  have HUL := Lib.hid hUl
  have HVL := Lib.hid hVl
  have HT := Lib.hid htop
  have HUT := Lib.hid hut
  have HQL := Lib.hid hql
  have HCL := Lib.hid hcl
  have HNU := Lib.hid hnu
  have HNQ := Lib.hid hnq
  have HUQ := Lib.hid huq
  have HVU := Lib.hid hvu
  have HVQ := Lib.hid hvq
  have HUS := Lib.hid huS
  have HQS := Lib.hid hqS
  have hnb : n ≤ 100002 := by omega
  have hn2 : 2 ≤ n := by omega
  have hNb : N ≤ 300000 := by omega
  have hnN : n ≤ N := by omega
  obtain ⟨k1, hk1⟩ : ∃ k1, k1 = k + 1 := ⟨_, rfl⟩
  rw [← hk1] at e2
  have hk1n : k1 < n := by omega
  have HK1 := Lib.hid hk1
  have e3 : (n : Int) + 1 = ((n + 1 : Nat) : Int) := by omega
  obtain ⟨n1, hn1⟩ : ∃ n1, n1 = n + 1 := ⟨_, rfl⟩
  rw [← hn1] at e3 HNT
  have HN1 := Lib.hid hn1
  have CV : Hid (w.cell? ⟨sBlk v, sOff v + k1, none⟩ = some (.int .u64 ((wdg V k1 : Nat) : Int))) := Lib.hid (by
    have := (hv.rw' wdsN_lt).cell k1 (by rw [wdsN_length, hk1]; omega)
    rw [wdsN_getD (by omega)] at this
    exact this)
  clear hv hu hq hst hn hN hUl hVl htop hut hql hcl hnu hnq huq hvu hvq huS hqS hk1 hn1
  go_enter_defers Tryz.func219, Tryz.ntmps219
  go_wp2_with fail
  refine HSV.out.mono ?_
  rintro _ _ ⟨rfl, rfl⟩
  go_wp2_with fail
  refine HNT.out.mono ?_
  rintro _ w1 ⟨h, o', L', rfl, hnt⟩
  obtain ⟨hs, hhl, hoh⟩ := hnt.own
  have hSh := hoh.isS
  have hLh : sLen h = n1 := by rw [hoh.len, hhl]
  obtain ⟨hv1, -, hvh⟩ := hnt.live v _ HV.out HCL.out
  obtain ⟨hu1, -, -⟩ := hnt.live u _ HU.out HNU.out
  obtain ⟨hq1, -, -⟩ := hnt.live q _ HQ.out HNQ.out
  have hn1v := HN1.out
  have hcq : 0 < sCap q := by have := hSq.le; omega
  have hcu : 0 < sCap u := by have := hSu.le; omega
  have hcv : 0 < sCap v := by have := hSv.le; omega
  have hch : 0 < sCap h := by have := hSh.le; omega
  have hhS : SBk s o (sBlk h) ∨ w.heap.size ≤ sBlk h := by
    rcases hnt.at' hch with h1 | h1
    · exact hnt.sb _ h1
    · exact .inr h1
  have C : DbC u q h v n := by
    refine ⟨HUQ.out hcq, ?_, ?_, HVU.out, HVQ.out hcq, fun he => ?_⟩
    · rcases hhS with h1 | h1
      · intro he; exact HUS.out (he ▸ h1)
      · have := (HU.out.lt hcu).2; omega
    · rcases hhS with h1 | h1
      · intro he; exact HQS.out hcq (he ▸ h1)
      · have := (HQ.out.lt hcq).2; omega
    · have := hvh hcv he.symm
      have := hSv.le; omega
  have hVp : 0 < V := by
    rcases Nat.eq_zero_or_pos V with h0 | h0
    · have := HT.out; rw [h0] at this; simp [wdg] at this
    · exact h0
  have hVlo : U < V * 18446744073709551616 ^ m := by
    have h1 := HUL.out
    have h2 := HUT.out
    have h3 : U / 18446744073709551616 ^ (m + (k + 1)) = wdg U (m + (k + 1)) := wtop (by rw [show m + (k + 1) + 1 = m + (k + 2) by omega]; exact h1)
    have h4 : V / 18446744073709551616 ^ (k + 1) = wdg V (k + 1) := wtop HVL.out
    rw [← h3, ← h4, Nat.pow_add, ← Nat.div_div_eq_div_mul] at h2
    have h5 : U / 18446744073709551616 ^ m < V := by
      refine Nat.lt_of_not_le fun hc => ?_
      have := Nat.div_le_div_right (c := 18446744073709551616 ^ (k + 1)) hc
      omega
    rw [Nat.mul_comm]
    exact (Nat.div_lt_iff_lt_mul (wpow_pos m)).1 h5 |> fun h => by rw [Nat.mul_comm]; exact h
  obtain ⟨d1, d2, d3, d4⟩ := dd_start hVlo
  have D0 : Hid (Db u q h v (U / V) V m n B s L' o' (wdsN (U % (V * 18446744073709551616 ^ (m + 1))) N) (m + 1) w1 w1) := Lib.hid (by
    rw [d2]
    refine ⟨by rw [HNN.out, HN.out]; exact hu1, by rw [wdsN_length, HNN.out], wdsN_lt, ⟨qs, hq1, HQL.out, fun k a b => by omega⟩, ⟨hs, hoh, by rw [hhl, hn1v]⟩, by rw [HN.out]; exact hv1.rw' wdsN_lt, hnt.st, Below.refl _ _, fun _ _ _ _ _ => rfl⟩)
  have cv1 : w1.cell? ⟨sBlk v, sOff v + k1, none⟩ = some (.int .u64 ((wdg V k1 : Nat) : Int)) := by
    have h1 := HK1.out
    have h2 := HN.out
    have := D0.out.rv.cell k1 (by rw [wdsN_length]; omega)
    rw [wdsN_getD (by omega)] at this
    exact this
  obtain ⟨v1, hv1e⟩ : ∃ v1, v1 = wdg V k1 := ⟨_, rfl⟩
  have hv1l := wdg_lt V k1
  have hv1t : 9223372036854775808 ≤ wdg V k1 := by rw [HK1.out]; exact HT.out
  rw [← hv1e] at cv1 hv1l hv1t
  have HV1 := Lib.hid hv1e
  have HRC := Lib.hid (recip_any v1 w1 hv1l (by omega))
  have HVP := Lib.hid hVp
  have HVLO := Lib.hid hVlo
  have HC := Lib.hid C
  have HNT1 := Lib.hid hnt
  have HHS := Lib.hid hhS
  have HV1T := Lib.hid hv1t
  clear hv1 hu1 hq1 hvh hoh hhl hnt C hVp hVlo d1 d2 d3 d4 hv1e hn1v hhS hv1t CV
  go_wp2_with fail
  refine HRC.out.mono ?_
  rintro _ _ ⟨rfl, a0, rfl⟩
  go_wp2
  go_loopw [13, 14] (fun x jx wr => ∃ J : Nat, J ≤ m + 1 ∧ jx = .int .i64 (jv J) ∧ (0 < J → x = .int .u64 ((wdg (U % (V * 18446744073709551616 ^ J)) (J + k1) : Nat) : Int)) ∧ Db u q h v (U / V) V m n B s L' o' (wdsN (U % (V * 18446744073709551616 ^ J)) N) J w1 wr) (fun _ jx _ => (intOf jx + 1).toNat)
  case atStart =>
    refine ⟨m + 1, Nat.le_refl _, by unfold jv; go_num, fun _ => ?_, D0.out.drewN a0⟩
    have h1 := HK1.out
    rw [(dd_start HVLO.out).2.1, wdg_small HUL.out (by omega)]
    rfl
  case round =>
    obtain ⟨J, hJ, rfl, hx, hD⟩ := hrel
    rcases Nat.eq_zero_or_pos J with hJ0 | hJ0
    · subst hJ0
      rw [show jv 0 = -1 from rfl]
      have hfin : Own wr B 116 u (cellsW (wdsN (U % V) (m + (k + 2)))) ∧ Own wr B 116 q (cellsW (wdsN (U / V) m)) := by
        obtain ⟨qs', q1, q2, q3⟩ := hD.oq
        refine ⟨?_, ?_⟩
        · have := hD.ou
          rw [Nat.pow_zero, Nat.mul_one, HNN.out, HN.out] at this
          exact this
        · have : qs' = cellsW (wdsN (U / V) m) := by
            apply List.ext_getElem?
            intro i
            by_cases hi : i < m
            · rw [q3 i (Nat.zero_le _) hi]
              simp [cellsW, wdsN, hi]
            · rw [List.getElem?_eq_none (by omega), List.getElem?_eq_none (by rw [cellsW_length, wdsN_length]; omega)]
          rw [← this]; exact q1
      have hst := hD.st
      have hbb := hD.below
      have hfr := hD.fr
      have hnt := HNT1.out
      have hframe : ∀ k, k < w.heap.size → ¬ SBk s o k → k ≠ sBlk u → k ≠ sBlk q → wr.heap[k]? = w.heap[k]? := fun k hk h1 h2 h3 => by
        rw [hfr k (Nat.lt_of_lt_of_le hk hnt.below.size) h2 h3 (fun he => by
          rcases HHS.out with h4 | h4
          · exact h1 (he ▸ h4)
          · omega)]
        exact hnt.frame k hk h1
      match o', hst, hnt with
      | none, hst, hnt =>
        have hL0 : L = 0 := by have := hst.2.2; have := hnt.le.1; omega
        have HR := Lib.hid (restore_none s L .returning wr hst.2.1)
        have Q : Hid (∃ o', DvP q u U V m (m + (k + 2)) B s L o o' w wr) := Lib.hid ⟨none, hfin.1, hfin.2, by rw [hL0]; exact ⟨hst.1, hst.2.1, rfl⟩, hnt.sb, hnt.below.trans hbb, hframe⟩
        clear hfin hst hbb hfr hnt hframe hD hx hL0
        go_wp2
        refine leaves_cons (f := 180) (args := #[.pointer (some ⟨s, 0, none⟩), .int .i64 (L : Int)]) (by simp) (by simp [go_sem]) ?_
        refine HR.out.mono ?_
        rintro e u' w'' ⟨rfl, rfl, rfl⟩
        simp [Leaves, settle, results, Tryz.results219, go_sem]
        exact Q.out
      | some (q0, v0), ⟨t0, t1, t2, t3, xs, t4, t5⟩, hnt =>
        simp only at t1 t2 t3 t4
        have hLc : L ≤ sCap v0 := by have := t4.isS.le; have := t4.len; have := hnt.le.1; omega
        have HR := Lib.hid (restore_some s q0 L v0 .returning wr t2 t3 t4.isS hLc (by omega))
        have hsub := t4.sub (l := 0) (n := L) (Nat.zero_le _) (by have := hnt.le.1; omega)
        have Q : Hid (∃ o', DvP q u U V m (m + (k + 2)) B s L o o' w (wr.setCell ⟨q0, 0, none⟩ (subS v0 0 L))) := Lib.hid (by
          have hnn : ∀ {x : Value} {xs : List Value}, Own wr B 116 x xs → Own (wr.setCell ⟨q0, 0, none⟩ (subS v0 0 L)) B 116 x xs := fun h => h.away t3 (by decide) 0 _
          have hq0S : SBk s o q0 ∨ w.heap.size ≤ q0 := hnt.sb q0 (.inr ⟨_, rfl, .inl rfl⟩)
          refine ⟨some (q0, subS v0 0 L), hnn hfin.1, hnn hfin.2, ⟨t0, t1, ?_, rowset (i := 0) _ t3, _, hnn hsub, ?_⟩, ?_, bset (hnt.below.trans hbb) t1, ?_⟩
          · have hne : s ≠ q0 := fun he => by
              rw [he, t3] at t2
              have h7 := Option.some.inj t2
              injection h7 with _ h8
              exact absurd h8 (by decide)
            rw [heap_setCell_other _ _ _ _ (by simpa using hne)]; exact t2
          · rw [List.length_drop, List.length_take]; have := hnt.le.1; omega
          · rintro k1 (rfl | ⟨qv, hqv, hk⟩)
            · exact .inl (.inl rfl)
            · cases hqv
              rcases hk with hk | ⟨hk1, hk2⟩
              · rw [hk]; exact hq0S
              · rw [hk2]
                simp only at hk1 ⊢
                rw [subS_blk t4.isS]
                refine hnt.sb _ (.inr ⟨_, rfl, .inr ⟨?_, rfl⟩⟩)
                rw [subS_cap t4.isS] at hk1; exact Nat.lt_of_lt_of_le hk1 (Nat.sub_le _ _)
          · intro k1 hk1 h1 h2 h3
            rw [heap_setCell_other _ _ _ _ (by
              simp only
              intro he
              rcases hq0S with h4 | h4
              · exact h1 (he ▸ h4)
              · omega)]
            exact hframe k1 hk1 h1 h2 h3)
        clear hfin t0 t1 t2 t3 t4 t5 hbb hfr hnt hframe hD hx hsub hLc
        go_wp2
        refine leaves_cons (f := 180) (args := #[.pointer (some ⟨s, 0, none⟩), .int .i64 (L : Int)]) (by simp) (by simp [go_sem]) ?_
        refine HR.out.mono ?_
        rintro e u' w'' ⟨rfl, rfl, rfl⟩
        simp [Leaves, settle, results, Tryz.results219, go_sem]
        exact Q.out
    · obtain ⟨j, rfl⟩ : ∃ j, J = j + 1 := ⟨J - 1, by omega⟩
      rw [show jv (j + 1) = (j : Int) by unfold jv; omega]
      obtain rfl := hx (by omega)
      obtain ⟨X, hX⟩ : ∃ X, X = U % (V * 18446744073709551616 ^ (j + 1)) := ⟨_, rfl⟩
      rw [← hX] at hD ⊢
      obtain ⟨R, hR⟩ : ∃ R, R = X / 18446744073709551616 ^ j := ⟨_, rfl⟩
      obtain ⟨s1, s2, s3⟩ := dd_step (U := U) (V := V) (j := j) HVP.out
      rw [← hX, ← hR] at s1 s2 s3
      have hkn := HN.out
      have hk1 := HK1.out
      have hNN := HNN.out
      obtain ⟨g1, g2⟩ := dg_top s1 HVL.out
      have hw : ∀ i, wdg R i = wdg X (j + i) := fun i => by rw [hR, wdg_div]
      obtain ⟨i1, hi1⟩ : ∃ i, i = j + k1 := ⟨_, rfl⟩
      obtain ⟨i0, hi0⟩ : ∃ i, i = j + k := ⟨_, rfl⟩
      obtain ⟨jn, hjn⟩ : ∃ i, i = j + n := ⟨_, rfl⟩
      have ea1 : (j : Int) + (n : Int) - 1 = (i1 : Int) := by omega
      have ea0 : (j : Int) + (n : Int) - 2 = (i0 : Int) := by omega
      have ev0 : (n : Int) - 2 = (k : Int) := by omega
      have eb1 : (j : Int) + (n : Int) = (jn : Int) := by omega
      have ea1' : (jn : Int) - 1 = (i1 : Int) := by omega
      have ea0' : (jn : Int) - 2 = (i0 : Int) := by omega
      have hRW := hD.ou.rw' hD.bu
      have cu1 : wr.cell? ⟨sBlk u, sOff u + i1, none⟩ = some (.int .u64 ((wdg R k1 : Nat) : Int)) := by
        have := hRW.cell i1 (by rw [wdsN_length]; omega)
        rw [wdsN_getD (by omega), hi1, ← hw] at this
        rw [hi1]; exact this
      have cu0 : wr.cell? ⟨sBlk u, sOff u + i0, none⟩ = some (.int .u64 ((wdg R k : Nat) : Int)) := by
        have := hRW.cell i0 (by rw [wdsN_length]; omega)
        rw [wdsN_getD (by omega), hi0, ← hw] at this
        rw [hi0]; exact this
      have cv0 : wr.cell? ⟨sBlk v, sOff v + k, none⟩ = some (.int .u64 ((wdg V k : Nat) : Int)) := by
        have := hD.rv.cell k (by rw [wdsN_length]; omega)
        rw [wdsN_getD (by omega)] at this
        exact this
      have hu2 : wdg X (j + 1 + k1) = wdg R (k + 2) := by rw [hw]; congr 1; omega
      rw [hu2]
      rw [← hk1] at g2
      have hv1e := HV1.out
      rw [← hv1e] at g2
      have hlast : (j = m → R < V ∧ wdg R (k + 2) = 0 ∧ wdg R k1 < v1) := fun he => by
        have hXU : X = U := by rw [hX, he]; exact (dd_start HVLO.out).2.1
        refine ⟨?_, ?_, ?_⟩
        · rw [hR, hXU, he]
          exact Nat.div_lt_of_lt_mul (by rw [Nat.mul_comm]; exact HVLO.out)
        · rw [hw, hXU]
          exact wdg_small HUL.out (by omega)
        · rw [hw, hXU, hv1e, he, hk1]; exact HUT.out
      have HLAST := Lib.hid hlast
      have HS1 := Lib.hid s1
      have HS2 := Lib.hid s2
      have HS3 := Lib.hid s3
      have HX := Lib.hid hX
      have HRR := Lib.hid hR
      have HW := Lib.hid hw
      have HG1 := Lib.hid g1
      have HD := Lib.hid hD
      have hb1 := wdg_lt R k1
      have hb0 := wdg_lt R k
      have hc0 := wdg_lt V k
      have hb2 := wdg_lt R (k + 2)
      obtain ⟨u2, hu2e⟩ : ∃ x, x = wdg R (k + 2) := ⟨_, rfl⟩
      obtain ⟨u1, hu1e⟩ : ∃ x, x = wdg R k1 := ⟨_, rfl⟩
      obtain ⟨u0, hu0e⟩ : ∃ x, x = wdg R k := ⟨_, rfl⟩
      obtain ⟨v2, hv2e⟩ : ∃ x, x = wdg V k := ⟨_, rfl⟩
      rw [← hu1e] at cu1 hb1
      rw [← hu0e] at cu0 hb0
      rw [← hv2e] at cv0 hc0
      rw [← hu2e] at g2 hb2 ⊢
      have HU2 := Lib.hid hu2e
      have HU1 := Lib.hid hu1e
      have HU0 := Lib.hid hu0e
      have HV2 := Lib.hid hv2e
      have HI : Hid (i1 = j + k1 ∧ i0 = j + k ∧ jn = j + n) := Lib.hid ⟨hi1, hi0, hjn⟩
      have hjm : j ≤ m := by omega
      have hi1N : i1 < N := by omega
      have hi0N : i0 < N := by omega
      have hjnN : jn ≤ m + n := by omega
      have hkn' : k < n := by omega
      clear hX hR s1 s2 s3 hw hRW hD hu2 hlast g1 hi1 hi0 hjn hu2e hu1e hu0e hv2e hkn hk1 hNN hv1e hx hJ0
      go_upto_if 51 with fail
      go_cut [15, 16, 17, 18, 19, 20] from 45 to 200 (fun a b c d e f wx => ∃ qh : Nat, a = .int .u64 qh ∧ GuessOK R V (decide (j = m)) qh ∧ wr = wx)
      case first =>
        by_cases he : u2 = v1
        · have t1 : ((u2 : Int) != (v1 : Int)) = false := by simp [he]
          have t1' : (u2 != v1) = false := by simp [he]
          have hgo : GuessOK R V (decide (j = m)) 18446744073709551615 := by
            obtain ⟨p1, p2⟩ := dg_max HS1.out HVL.out (by rw [← HU2.out, he, HV1.out, HK1.out]) HT.out HVP.out
            refine ⟨by decide, p1, p2, fun hl => ?_⟩
            have := (HLAST.out (of_decide_eq_true hl)).2.1
            rw [← HU2.out] at this
            have h6 := HV1T.out
            omega
          have HGO := Lib.hid hgo
          clear he hgo
          go_wp2_with fail
          go_meet
          exact ⟨18446744073709551615, rfl, HGO.out, rfl⟩
        · have t1 : ((u2 : Int) != (v1 : Int)) = true := by rw [bne_iff_ne]; omega
          have t1' : (u2 != v1) = true := by rw [bne_iff_ne]; exact he
          have hlt : u2 < v1 := by omega
          have hv1p : 0 < v1 := by omega
          have HDW := Lib.hid (divWW_any u2 u1 v1 wr hv1l hlt hb1)
          obtain ⟨qh, hqh⟩ : ∃ x, x = (u2 * 18446744073709551616 + u1) / v1 := ⟨_, rfl⟩
          obtain ⟨rh, hrh⟩ : ∃ x, x = (u2 * 18446744073709551616 + u1) % v1 := ⟨_, rfl⟩
          rw [← hqh, ← hrh] at HDW
          have hdm := Nat.div_add_mod (u2 * 18446744073709551616 + u1) v1
          rw [← hqh, ← hrh, Nat.mul_comm] at hdm
          have hrl : rh < v1 := by rw [hrh]; exact Nat.mod_lt _ hv1p
          have hql2 : qh < 18446744073709551616 := by rw [hqh]; exact q_lt hlt hb1
          have hup := kd_start (b := 18446744073709551616) (v2 := v2) hdm hrl hb0
          have hql0 : j = m → qh = 0 := fun hjm0 => by
            obtain ⟨-, p1, p2⟩ := HLAST.out hjm0
            rw [← HU2.out] at p1
            rw [← HU1.out] at p2
            rw [hqh]; exact q_zero p1 p2
          have HDM := Lib.hid hdm
          have HUP := Lib.hid hup
          have HQ0 := Lib.hid hql0
          have HMW := Lib.hid (mulWW_any qh v2 wr hql2 hc0)
          obtain ⟨x1, hx1⟩ : ∃ x, x = qh * v2 / 18446744073709551616 := ⟨_, rfl⟩
          obtain ⟨x2, hx2⟩ : ∃ x, x = qh * v2 % 18446744073709551616 := ⟨_, rfl⟩
          rw [← hx1, ← hx2] at HMW
          have HXX : Hid (x1 * 18446744073709551616 + x2 = qh * v2 ∧ x2 < 18446744073709551616 ∧ x1 < 18446744073709551616) := Lib.hid (by
            rw [hx1, hx2]; have := Nat.div_add_mod (qh * v2) 18446744073709551616; exact ⟨by rw [Nat.mul_comm]; exact this, Nat.mod_lt _ (by decide), q_hi hql2 hc0⟩)
          clear he hqh hrh hdm hup hql0 hx1 hx2
          go_wp2_with fail
          refine HDW.out.mono ?_
          rintro _ _ ⟨rfl, rfl⟩
          go_wp2_with fail
          refine HMW.out.mono ?_
          rintro _ _ ⟨rfl, rfl⟩
          go_wp2
          go_loop [15, 16, 18, 19] (fun a b c d => ∃ qq rr y1 y2 : Nat, a = .int .u64 qq ∧ b = .int .u64 rr ∧ c = .int .u64 y1 ∧ d = .int .u64 y2 ∧ (qq * v1 + rr = u2 * 18446744073709551616 + u1 ∧ (u2 * 18446744073709551616 + u1) * 18446744073709551616 + u0 < (qq + 1) * (v1 * 18446744073709551616 + v2) ∧ y1 * 18446744073709551616 + y2 = qq * v2 ∧ y2 < 18446744073709551616 ∧ y1 < 18446744073709551616 ∧ qq < 18446744073709551616 ∧ rr < 18446744073709551616 ∧ (j = m → qq = 0))) (fun a _ _ _ => (intOf a).toNat)
          case atStart => exact ⟨qh, rh, x1, x2, rfl, rfl, rfl, rfl, HDM.out, HUP.out, HXX.out.1, HXX.out.2.1, HXX.out.2.2, hql2, by omega, HQ0.out⟩
          case round =>
            obtain ⟨qq, rr, y1, y2, rfl, rfl, rfl, rfl, h1, h2, h3, h4, h4', h5, h6, h7⟩ := hrel
            by_cases hgo : rr * 18446744073709551616 + u0 < qq * v2
            · have HGT := Lib.hid (fun W => gt_any y1 y2 rr u0 true W h4 hb0 (by rw [h3]; exact (decide_eq_true hgo).symm))
              obtain ⟨qq, rfl⟩ : ∃ z, qq = z + 1 := by
                rcases Nat.eq_zero_or_pos qq with h0 | h0
                · subst h0; rw [Nat.zero_mul] at hgo; exact absurd hgo (Nat.not_lt_zero _)
                · exact ⟨qq - 1, by omega⟩
              obtain ⟨k1', k2', k3', k4', k5'⟩ := q_step h1 h3 h4 hc0 h6 hv1l hv1p h5 hgo
              have hjn : j ≠ m := fun hh => absurd (h7 hh) (Nat.succ_ne_zero _)
              have hq5 : qq < 18446744073709551616 := by omega
              by_cases hov : 18446744073709551616 ≤ rr + v1
              · have hgok : GuessOK R V (decide (j = m)) qq := by
                  obtain ⟨p1, p2⟩ := dg_guess (qh := qq) (rh := rr + v1) HG1.out HVL.out (by rw [← HK1.out, ← HV1.out]; exact hv1p) (by rw [← HK1.out, ← HV1.out, ← HU2.out, ← HU1.out]; exact k1') (by rw [← HK1.out, ← HV1.out, ← HU2.out, ← HU1.out, ← HU0.out, ← HV2.out]; exact k2') (by rw [← HV2.out, ← HU0.out]; exact k3' hov) (by omega)
                  exact ⟨hq5, p1, p2, fun hl => absurd (of_decide_eq_true hl) hjn⟩
                have HGO := Lib.hid hgok
                obtain ⟨r2, hr2⟩ : ∃ r2, rr + v1 = r2 + 18446744073709551616 := ⟨rr + v1 - 18446744073709551616, by omega⟩
                have w1' : IntKind.u64.wrap ((rr : Int) + (v1 : Int)) = (r2 : Int) := by rw [IntKind.wrap_u64]; omega
                have w2' : ((rr : Int) + (v1 : Int)) % 18446744073709551616 = (r2 : Int) := by omega
                have t3 : decide (r2 < v1) = true := decide_eq_true (by omega)
                clear h1 h2 h3 h7 hgo k1' k2' k3' k4' k5' hov hr2 hgok
                go_wp2_with fail
                refine (HGT.out _).mono ?_
                rintro _ _ ⟨rfl, rfl⟩
                go_wp2_with fail
                go_meet
                exact ⟨qq, rfl, HGO.out, rfl⟩
              · obtain ⟨r2, hr2⟩ : ∃ r2, r2 = rr + v1 := ⟨_, rfl⟩
                have w1' : IntKind.u64.wrap ((rr : Int) + (v1 : Int)) = (r2 : Int) := by rw [IntKind.wrap_u64]; omega
                have w2' : ((rr : Int) + (v1 : Int)) % 18446744073709551616 = (r2 : Int) := by omega
                have w3' : (rr : Int) + (v1 : Int) = (r2 : Int) := by omega
                have t3 : decide (r2 < v1) = false := decide_eq_false (by omega)
                have hr2l : r2 < 18446744073709551616 := by omega
                rw [← hr2] at k1'
                have HK1' := Lib.hid k1'
                have HK2' := Lib.hid k2'
                by_cases hbw : y2 < v2
                · obtain ⟨hy1, hy⟩ := k5' hbw
                  have t4 : decide (y2 < v2) = true := decide_eq_true hbw
                  obtain ⟨y1, rfl⟩ : ∃ z, y1 = z + 1 := ⟨y1 - 1, by omega⟩
                  rw [show y1 + 1 - 1 = y1 by omega] at hy
                  obtain ⟨d2, hd2⟩ : ∃ d, d = y2 + 18446744073709551616 - v2 := ⟨_, rfl⟩
                  rw [← hd2] at hy
                  have w4 : IntKind.u64.wrap ((y2 : Int) - (v2 : Int)) = (d2 : Int) := by rw [IntKind.wrap_u64]; omega
                  have w5 : ((y2 : Int) - (v2 : Int)) % 18446744073709551616 = (d2 : Int) := by omega
                  have hd2l : d2 < 18446744073709551616 := by omega
                  have HY := Lib.hid hy
                  clear h1 h2 h3 h7 hgo k1' k2' k3' k4' k5' hov hr2 hbw hd2 hy hy1
                  go_wp2_with fail
                  refine (HGT.out _).mono ?_
                  rintro _ _ ⟨rfl, rfl⟩
                  go_wp2
                  go_round
                  case rel => exact ⟨qq, r2, y1, d2, by go_num, by go_num, by go_num, by go_num, HK1'.out, HK2'.out, HY.out, hd2l, (by omega), hq5, hr2l, fun hh => absurd hh hjn⟩
                  case measure => simp [intOf]
                · have hy := k4' (by omega)
                  have t4 : decide (y2 < v2) = false := decide_eq_false hbw
                  obtain ⟨d2, hd2⟩ : ∃ d, d = y2 - v2 := ⟨_, rfl⟩
                  rw [← hd2] at hy
                  have w4 : IntKind.u64.wrap ((y2 : Int) - (v2 : Int)) = (d2 : Int) := by rw [IntKind.wrap_u64]; omega
                  have w5 : ((y2 : Int) - (v2 : Int)) % 18446744073709551616 = (d2 : Int) := by omega
                  have w6 : (y2 : Int) - (v2 : Int) = (d2 : Int) := by omega
                  have hd2l : d2 < 18446744073709551616 := by omega
                  have HY := Lib.hid hy
                  clear h1 h2 h3 h7 hgo k1' k2' k3' k4' k5' hov hr2 hbw hd2 hy
                  go_wp2_with fail
                  refine (HGT.out _).mono ?_
                  rintro _ _ ⟨rfl, rfl⟩
                  go_wp2
                  go_round
                  case rel => exact ⟨qq, r2, y1, d2, by go_num, by go_num, by go_num, by go_num, HK1'.out, HK2'.out, HY.out, hd2l, (by omega), hq5, hr2l, fun hh => absurd hh hjn⟩
                  case measure => simp [intOf]
            · have HGT := Lib.hid (fun W => gt_any y1 y2 rr u0 false W h4 hb0 (by rw [h3]; exact (decide_eq_false hgo).symm))
              have hgok : GuessOK R V (decide (j = m)) qq := by
                obtain ⟨p1, p2⟩ := dg_guess (qh := qq) (rh := rr) HG1.out HVL.out (by rw [← HK1.out, ← HV1.out]; exact hv1p) (by rw [← HK1.out, ← HV1.out, ← HU2.out, ← HU1.out]; exact h1) (by rw [← HK1.out, ← HV1.out, ← HU2.out, ← HU1.out, ← HU0.out, ← HV2.out]; exact h2) (by rw [← HV2.out, ← HU0.out]; omega) (by omega)
                exact ⟨h5, p1, p2, fun hl => h7 (of_decide_eq_true hl)⟩
              have HGO := Lib.hid hgok
              clear h1 h2 h3 h7 hgo hgok
              go_wp2_with fail
              refine (HGT.out _).mono ?_
              rintro _ _ ⟨rfl, rfl⟩
              go_wp2_with fail
              go_meet
              exact ⟨qq, rfl, HGO.out, rfl⟩
      case rest =>
        obtain ⟨qh, rfl, ⟨gq1, gq2, gq3, gq4⟩, rfl⟩ := hcut
        have hVn : V < 18446744073709551616 ^ n := by rw [HN.out]; exact HVL.out
        have HVN := Lib.hid hVn
        have HA := Lib.hid (ha_call HC.out HD.out hVn gq1 (by omega))
        have hn1' := HN1.out
        have hS0n : IsS (subS h 0 n) := subS_isS hSh (Nat.zero_le _) (by have := hSh.le; omega)
        have hNm := HNN.out
        have hnn1 : n < n1 := by omega
        have hqlN : n ≤ sCap h := by have := hSh.le; omega
        have hn1c : n1 ≤ sCap h := by have := hSh.le; omega
        obtain ⟨jn1, hjn1⟩ : ∃ x, x = j + n1 := ⟨_, rfl⟩
        have ej1 : (j : Int) + (n1 : Int) = (jn1 : Int) := by omega
        have ej1w : IntKind.i64.wrap ((j : Int) + (n1 : Int)) = (jn1 : Int) := by rw [IntKind.wrap_i64]; omega
        have ejnw : IntKind.i64.wrap ((j : Int) + (n : Int)) = (jn : Int) := by rw [IntKind.wrap_i64]; omega
        have en1 : (n1 : Int) - 1 = (n : Int) := by omega
        have hcuN : N ≤ sCap u := by have := hSu.le; omega
        have HJN1 := Lib.hid hjn1
        by_cases hjm' : j < m
        · have tj : ((j : Int) == (m : Int)) = false := by rw [beq_eq_false_iff_ne]; omega
          have tj' : (j == m) = false := by rw [beq_eq_false_iff_ne]; omega
          have tl : decide (N < jn1) = false := decide_eq_false (by omega)
          have hS1 : IsS (subS u j jn1) := subS_isS hSu (by omega) (by omega)
          have hS2 : IsS (subS h 0 n1) := subS_isS hSh (Nat.zero_le _) hn1c
          have hS3 : IsS (subS u j jn) := subS_isS hSu (by omega) (by omega)
          have hj1 : j ≤ jn1 := by omega
          have hj2 : j ≤ jn := by omega
          have hj3 : jn1 ≤ sCap u := by omega
          have hj4 : jn ≤ sCap u := by omega
          have hj5 : jn < sLen u := by omega
          clear hn1' hjn1
          go_wp2_with fail
          refine HA.out.mono ?_
          rintro _ w1x ⟨c, rfl, ha⟩
          obtain ⟨x0, hx0⟩ := ha.cell
          have hf0 := ha.fz
          have HAP := Lib.hid ha
          obtain ⟨W2, hW2⟩ : ∃ W2, W2 = w1x.setCell ⟨sBlk h, sOff h + n, none⟩ (.int .u64 (c : Int)) := ⟨_, rfl⟩
          have HSB : Hid (∀ kk, Calls Tryz.prog 188 #[subS u j jn1, subS u j jn1, subS h 0 n1] (W2.drewN kk) fun e w' => ∃ c2 : Nat, e = .returned (.int .u64 c2) ∧ ∃ Z, SbP u q h v (U / V) V m n B s L' o' (wdsN X (m + n)) (cellsW (wdsN (V * qh) (n + 1))) (j + 1) j (n + 1) (V * qh) c2 Z w1 w') := Lib.hid (fun kk => by
            have hd2 := ha.db.drewN kk
            have ho2 := ha.own.drewN kk
            rw [← hW2, hNm] at hd2
            rw [← hW2] at ho2
            rw [HJN1.out, HN1.out]
            exact sb_call HC.out hd2 ho2 (by omega) (by omega) (by omega) (by omega))
          clear ha hNm
          go_upto_region 28 with fail
          rw [← hW2]
          clear hx0 hf0 hW2
          have hQo : ∀ w', (Ending.outgrown = Ending.returned (.tuple #[]) ∧ ∃ o', DvP q u U V m (m + (k + 2)) B s L o o' w w') → False := fun _ h => by cases h.1
          refine wp_region_noPanic ?_
          refine wp_region_hoist 15 (by kernel_rfl) (by kernel_rfl) ⟨fun _ _ _ h => h, fun _ w' h => hQo w' h⟩ ?_
          simp only [List.take_succ_cons, List.take_zero, List.drop_succ_cons, List.drop_zero]
          repeat (go_big_quiet_step (fail))
          refine wpQuiet_nil ?_
          rintro _ ⟨nq, rfl⟩
          go_wp2_with fail
          refine (HSB.out _).mono ?_
          rintro _ w3 ⟨c2, rfl, Z, hsp⟩
          go_wp2_with fail
          refine NoPanic.normal ?_
          have hg1 : R < 18446744073709551616 ^ (n + 1) := by rw [HN.out]; exact HG1.out
          have hNm := HNN.out
          have hle := hsp.le
          have hQ := HS2.out
          rcases (by omega : c2 = 0 ∨ c2 = 1) with hc2 | hc2
          · subst hc2
            obtain ⟨kq, hdb⟩ := fin0 HX.out HRR.out HVP.out HVN.out hjm' hg1 gq2 gq3 gq1 hsp
            have hqd : qh = wdg (U / V) j := kq.trans hQ
            have cui : w3.cell? ⟨sBlk u, sOff u + i1, none⟩ = some (.int .u64 ((wdg (U % (V * 18446744073709551616 ^ j)) i1 : Nat) : Int)) := by
              have := (hdb.ou.rw' hdb.bu).cell i1 (by rw [wdsN_length]; omega)
              rw [wdsN_getD (by omega)] at this
              exact this
            obtain ⟨qs', q1, q2, -⟩ := hdb.oq
            obtain ⟨y0, cq⟩ : ∃ y, w3.cell? ⟨sBlk q, sOff q + j, none⟩ = some y := ⟨_, q1.cell (List.getElem?_eq_getElem (by omega))⟩
            have fq := q1.frozen hcq (sOff q + j)
            have hset := hdb.setQ HC.out hjm'
            rw [← hqd, ← hNm] at hset
            have HSET := Lib.hid hset
            obtain ⟨xn, hxn⟩ : ∃ x, x = wdg (U % (V * 18446744073709551616 ^ j)) i1 := ⟨_, rfl⟩
            rw [← hxn] at cui
            have HXN := Lib.hid hxn
            have tc : ((0 : Int) != 0) = false := by decide
            clear hdb hsp hset hqd kq hQ hg1 hNm q1 q2 hxn gq2 gq3 gq4
            go_wp2
            go_roundw
            case rel => exact ⟨j, by omega, by unfold jv; go_num, fun _ => by rw [HXN.out, HI.out.1], HSET.out⟩
            case measure => simp [intOf] <;> omega
          · subst hc2
            obtain ⟨us0, hus0⟩ : ∃ x, x = (wdsN X (m + n)).take j ++ (wdsN Z (n + 1) ++ (wdsN X (m + n)).drop (j + (n + 1))) := ⟨_, rfl⟩
            have HAD : Hid (∀ kk, Calls Tryz.prog 187 #[subS u j jn, subS u j jn, v] (w3.drewN kk) fun e w' => ∃ c3 : Nat, e = .returned (.int .u64 c3) ∧ ∃ A, AdP u q h v (U / V) V m n B s L' o' us0 (j + 1) j c3 A w1 w') := Lib.hid (fun kk => by
              have hd3 := hsp.db.drewN kk
              rw [← hus0] at hd3
              rw [HI.out.2.2]
              exact ad_call HC.out hd3 HVN.out (by omega) (by omega) (by omega))
            have HSP := Lib.hid hsp
            have HUS0 := Lib.hid hus0
            have HG1' := Lib.hid hg1
            have HQQ := Lib.hid hQ
            have HNM := Lib.hid hNm
            have GQ2 := Lib.hid gq2
            have GQ3 := Lib.hid gq3
            have tc : ((1 : Int) != 0) = true := by decide
            clear hsp hus0 hg1 hQ hNm gq2 gq3 gq4
            go_upto_region 30 with fail
            refine wp_region_noPanic ?_
            refine wp_region_hoist 13 (by kernel_rfl) (by kernel_rfl) ⟨fun _ _ _ h => h, fun _ w' h => hQo w' h⟩ ?_
            simp only [List.take_succ_cons, List.take_zero, List.drop_succ_cons, List.drop_zero]
            repeat (go_big_quiet_step (fail))
            refine wpQuiet_nil ?_
            rintro _ ⟨nr, rfl⟩
            go_wp2_with fail
            refine (HAD.out _).mono ?_
            rintro _ w4 ⟨c3, rfl, A, hap⟩
            go_wp2_with fail
            refine NoPanic.normal ?_
            have hap' := hap
            rw [HUS0.out] at hap'
            obtain ⟨z1, z2, z3, z4, z5⟩ := fin1 HX.out HRR.out HVP.out HVN.out hjm' HG1'.out GQ2.out GQ3.out gq1 HSP.out hap'
            obtain ⟨q', rfl⟩ : ∃ q', qh = q' + 1 := ⟨qh - 1, by omega⟩
            have hqd : q' = wdg (U / V) j := by rw [Nat.add_sub_cancel] at z2; exact z2.trans HQQ.out
            have hd4 := hap'.db
            obtain ⟨us1, hus1⟩ : ∃ x, x = ((wdsN X (m + n)).take j ++ (wdsN Z (n + 1) ++ (wdsN X (m + n)).drop (j + (n + 1)))).take j ++ (wdsN A n ++ ((wdsN X (m + n)).take j ++ (wdsN Z (n + 1) ++ (wdsN X (m + n)).drop (j + (n + 1)))).drop (j + n)) := ⟨_, rfl⟩
            rw [← hus1] at z4 z5 hd4
            have hjne := HI.out.2.2
            have cjn : w4.cell? ⟨sBlk u, sOff u + jn, none⟩ = some (.int .u64 ((wdg Z n : Nat) : Int)) := by
              have := (hd4.ou.rw' hd4.bu).cell jn (by rw [hd4.lu]; omega)
              rw [hjne, z4] at this
              rw [hjne]; exact this
            have fjn := hd4.ou.frozen hcu (sOff u + jn)
            have hdu := hd4.setU HC.out (i := jn) (x := 0) (by omega) (by decide)
            rw [hjne, z5, ← hjne] at hdu
            have hdu : Db u q h v (U / V) V m n B s L' o' (wdsN (U % (V * 18446744073709551616 ^ j)) (m + n)) (j + 1) w1 (w4.setCell ⟨sBlk u, sOff u + jn, none⟩ (.int .u64 0)) := hdu
            have hzl := wdg_lt Z n
            have hc3 := hap.le
            obtain ⟨zh, hzh⟩ : ∃ x, x = wdg Z n := ⟨_, rfl⟩
            rw [← hzh] at z3 cjn hzl
            have ww1 : IntKind.u64.wrap ((zh : Int) + (c3 : Int)) = 0 := by rw [IntKind.wrap_u64]; omega
            have ww2 : ((zh : Int) + (c3 : Int)) % 18446744073709551616 = 0 := by omega
            have tn : decide (n < n1) = true := decide_eq_true hnn1
            have cui : (w4.setCell ⟨sBlk u, sOff u + jn, none⟩ (.int .u64 0)).cell? ⟨sBlk u, sOff u + i1, none⟩ = some (.int .u64 ((wdg (U % (V * 18446744073709551616 ^ j)) i1 : Nat) : Int)) := by
              have := (hdu.ou.rw' hdu.bu).cell i1 (by rw [wdsN_length]; have := HNM.out; omega)
              rw [wdsN_getD (by have := HNM.out; omega)] at this
              exact this
            obtain ⟨qs', q1, q2, -⟩ := hdu.oq
            obtain ⟨y0, cq⟩ : ∃ y, (w4.setCell ⟨sBlk u, sOff u + jn, none⟩ (.int .u64 0)).cell? ⟨sBlk q, sOff q + j, none⟩ = some y := ⟨_, q1.cell (List.getElem?_eq_getElem (by omega))⟩
            have fq := q1.frozen hcq (sOff q + j)
            have hset := hdu.setQ HC.out hjm'
            rw [← hqd, ← HNM.out] at hset
            have HSET := Lib.hid hset
            obtain ⟨xn, hxn⟩ : ∃ x, x = wdg (U % (V * 18446744073709551616 ^ j)) i1 := ⟨_, rfl⟩
            rw [← hxn] at cui
            have HXN := Lib.hid hxn
            have hq'l : q' < 18446744073709551616 := by omega
            obtain ⟨W5, hW5⟩ : ∃ W5, W5 = w4.setCell ⟨sBlk u, sOff u + jn, none⟩ (.int .u64 0) := ⟨_, rfl⟩
            rw [← hW5] at cui cq fq HSET
            have HW5 := Lib.hid hW5
            clear hap hap' z1 z2 z3 z4 z5 hqd hd4 hus1 hjne hdu hzh hset hxn q1 q2 hW5
            go_upto_region 33 with fail
            rw [← HW5.out]
            clear cjn fjn
            go_wp2
            go_roundw
            case rel => exact ⟨j, by omega, by unfold jv; go_num, fun _ => by rw [HXN.out, HI.out.1], HSET.out⟩
            case measure => simp [intOf] <;> omega
        · have hjm2 : m = j := by omega
          subst hjm2
          have hq0 : qh = 0 := gq4 (by simp)
          have tq0 : ((qh : Int) == 0) = true := by rw [beq_iff_eq]; omega
          have tj : ((m : Int) == (m : Int)) = true := by simp
          have tl : decide (N < jn1) = true := decide_eq_true (by omega)
          have hS1 : IsS (subS u m jn) := subS_isS hSu (by omega) (by omega)
          have hj2 : m ≤ jn := by omega
          have hj4 : jn ≤ sCap u := by omega
          have HQ0 := Lib.hid hq0
          have HNM := Lib.hid hNm
          clear hn1' hjn1 hq0 gq2 gq3 gq4 hNm
          go_wp2_with fail
          refine HA.out.mono ?_
          rintro _ w1x ⟨c, rfl, ha⟩
          obtain ⟨x0, hx0⟩ := ha.cell
          have hf0 := ha.fz
          have hc0' : c = 0 := ha.zero HQ0.out
          have tc0 : ((c : Int) == 0) = true := by rw [beq_iff_eq]; omega
          obtain ⟨W2, hW2⟩ : ∃ W2, W2 = w1x.setCell ⟨sBlk h, sOff h + n, none⟩ (.int .u64 (c : Int)) := ⟨_, rfl⟩
          have HSB : Hid (∀ kk, Calls Tryz.prog 188 #[subS u m jn, subS u m jn, subS h 0 n] (W2.drewN kk) fun e w' => ∃ c2 : Nat, e = .returned (.int .u64 c2) ∧ c2 = 0 ∧ Db u q h v (U / V) V m n B s L' o' (wdsN (U % (V * 18446744073709551616 ^ m)) N) m w1 w') := Lib.hid (fun kk => by
            have hd2 := ha.db.drewN kk
            have ho2 := ha.own.drewN kk
            rw [← hW2] at hd2 ho2
            exact fm_call HC.out hd2 ho2 HX.out HRR.out HVLO.out HVN.out (HLAST.out (by trivial)).1 HNM.out HI.out.2.2 HQ0.out (Nat.lt_of_lt_of_le (by decide) hn2) (Nat.le_trans hnb (by decide)))
          clear ha hc0'
          go_upto_region 28 with fail
          rw [← hW2]
          clear hx0 hf0 hW2
          have hQo : ∀ w', (Ending.outgrown = Ending.returned (.tuple #[]) ∧ ∃ o', DvP q u U V m (m + (k + 2)) B s L o o' w w') → False := fun _ h => by cases h.1
          refine wp_region_noPanic ?_
          refine wp_region_hoist 15 (by kernel_rfl) (by kernel_rfl) ⟨fun _ _ _ h => h, fun _ w' h => hQo w' h⟩ ?_
          simp only [List.take_succ_cons, List.take_zero, List.drop_succ_cons, List.drop_zero]
          repeat (go_big_quiet_step (fail))
          refine wpQuiet_nil ?_
          rintro _ ⟨nq, rfl⟩
          go_wp2_with fail
          refine (HSB.out _).mono ?_
          rintro _ w3 ⟨c2, rfl, hc2, hdb⟩
          go_wp2_with fail
          refine NoPanic.normal ?_
          have tc : ((c2 : Int) != 0) = false := by rw [hc2]; decide
          have cui : w3.cell? ⟨sBlk u, sOff u + i1, none⟩ = some (.int .u64 ((wdg (U % (V * 18446744073709551616 ^ m)) i1 : Nat) : Int)) := by
            have := (hdb.ou.rw' hdb.bu).cell i1 (by rw [wdsN_length]; omega)
            rw [wdsN_getD (by omega)] at this
            exact this
          have HDB := Lib.hid hdb
          obtain ⟨xn, hxn⟩ : ∃ x, x = wdg (U % (V * 18446744073709551616 ^ m)) i1 := ⟨_, rfl⟩
          rw [← hxn] at cui
          have HXN := Lib.hid hxn
          clear hdb hxn hc2
          go_wp2
          go_roundw
          case rel => exact ⟨m, by omega, by unfold jv; go_num, fun _ => by rw [HXN.out, HI.out.1], HDB.out⟩
          case measure => simp [intOf] <;> omega
end Go.Proofs.YtllhnjpnkmjopaaGreatDoor
