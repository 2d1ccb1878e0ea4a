/-
Texts of this proof, joined: QuC. No condition.
-/
import Derived.Test.YtllhnjpnkmjopaaGreatDoorK15
import Derived.Test.YtllhnjpnkmjopaaGreatDoorK20
import Derived.Test.YtllhnjpnkmjopaaGreatDoorK21
import Derived.Test.YtllhnjpnkmjopaaGreatDoorK33
import Derived.LaidEqlPtr
import Derived.Deep.RegionHeld3
import Derived.Deep.DeepCutAuto
namespace Go.Proofs.YtllhnjpnkmjopaaGreatDoor
open Go.RowKit

structure QuS (L X : Nat) (w : World) (W : World) (ad : Value) : Prop where
  isS : IsS ad
  len : sLen ad = L
  ro : RO W ad (wds X)
  bl : Below w.heap.size w W
theorem wds_shl {M lx dd : Nat} (h : nw M = lx) (h0 : 0 < M) : wds (M * 18446744073709551616 ^ dd) = List.replicate dd 0 ++ wds M := by
  have h1 : ∀ d ∈ List.replicate dd 0 ++ wds M, d < 18446744073709551616 := by
    intro d hd
    rcases List.mem_append.1 hd with h | h
    · rw [List.eq_of_mem_replicate h]; decide
    · exact wds_lt h
  have hz0 : ∀ j, wv (List.replicate j 0) = 0 := fun j => by
    induction j with
    | zero => rfl
    | succ j ih => rw [List.replicate_succ]; simp [wv, ih]
  have h2 : wv (List.replicate dd 0 ++ wds M) = M * 18446744073709551616 ^ dd := by
    rw [wv_append, hz0, List.length_replicate, wv_wds, Nat.zero_add, Nat.mul_comm]
  have h3 : nw (M * 18446744073709551616 ^ dd) = dd + lx := by
    have hp : 0 < M * 18446744073709551616 ^ dd := Nat.mul_pos h0 (Nat.pow_pos (by decide))
    rw [nw_bl hp, w_two, bl_mul h0, ← h, nw_bl h0]
    omega
  have h4 := wds_of h1 (by rw [h2, h3, List.length_append, List.length_replicate, wds_length, h])
  rw [h2] at h4
  exact h4.symm
structure QuW (b B K s p m f : Nat) (a e : Int) (nz : Bool) (q : Value) (xs : List Nat) (o : Option (Nat × Value)) (w W : World) : Prop where
  flt : FltR W b p m a f nz q e
  own : Own W K 116 q (cellsW xs)
  st : StO W K s 0 o
  nsq : 0 < sCap q → ¬ SBk s o (sBlk q)
  bl : Below B w W
  bk : b < K
  bb : B ≤ b
section
variable {b B K s p m f : Nat} {a e : Int} {nz : Bool} {q : Value} {xs : List Nat} {o : Option (Nat × Value)} {w W : World}
theorem QuW.ofDiv {Q : Nat} {V w6 : World} (d : DvS (.slice none 0 0) q Q K s none o V w6) (hz : FltR V b p m a f nz (.slice none 0 0) e) (hbl : Below B w V) (bk : b < K) (bb : B ≤ b) :
    FltR w6 b p m a f nz (.slice none 0 0) e ∧ QuW b B K s p m f a e nz q (wds Q) o w (w6.setCell ⟨b, 5, none⟩ q) := by
  have h6 : FltR w6 b p m a f nz (.slice none 0 0) e := (d.below.block b bk).trans hz
  refine ⟨h6, h6.s5 q, h6.own d.own 5 q, d.st.keep fun k hk => heap_setCell_other _ _ _ _ ?_, d.nsq, bset (hbl.trans (d.below.mono (by omega))) bb, bk, bb⟩
  have := (d.st.base hk).1
  simp only; omega
theorem QuW.turn {ys : List Nat} {W' : World} (h : QuW b B K s p m f a e nz q xs o w W) (ho : Own W' K 116 q (cellsW ys)) (hb : Below K W W') (hn : Only (sBlk q) W W') (hc : 0 < sCap q) : QuW b B K s p m f a e nz q ys o w W' := by
  have h1 := (h.own.lt hc).1
  have h2 := h.bk
  have h3 := h.bb
  refine ⟨(hn b h.flt.lt (by omega)).trans h.flt, ho, h.st.keep fun k hk => hn k (h.st.base hk).2 fun he => h.nsq hc (he ▸ hk), h.nsq, h.bl.trans (hb.mono (by omega)), h.bk, h.bb⟩
theorem QuW.drewN (h : QuW b B K s p m f a e nz q xs o w W) (k : Nat) : QuW b B K s p m f a e nz q xs o w (W.drewN k) :=
  ⟨h.flt, h.own.drewN k, h.st.keep fun _ _ => rfl, h.nsq, undrewN' h.bl, h.bk, h.bb⟩
theorem FVal.low {w : World} {B K b p m f : Nat} {a : Int} {neg : Bool} {M : Nat} {X : Int} (h : FVal w K b p m a f neg M X) (hB : B ≤ K) : FVal w B b p m a f neg M X := by
  obtain ⟨v, e, h1, h2⟩ := h
  exact ⟨v, e, h1, fun hf => by
    obtain ⟨k1, ws, k2, k3⟩ := h2 hf
    exact ⟨k1, ws, k2.mono hB, k3⟩⟩
theorem QuW.fin0 {sb N : Nat} {X : Int} {W' : World} (h : QuW b B K s p m f a e nz q xs none w W) (hr : RndQ (sBlk q) K b p m nz sb N X W W') (hc : 0 < sCap q) (hN : 0 < rQ p m nz sb N) :
    W'.cell? ⟨s, 0, none⟩ = some (.pointer none) ∧ FVal W' B b p m (rA p m nz sb N) 1 nz (rQ p m nz sb N) (X + rk p N) ∧ Below B w W' := by
  have hv := hr.val hN
  obtain ⟨v, ws, e', h1, h2, h3, h4, h5, h6⟩ := hr
  have k1 := (h.own.lt hc).1
  have k2 := h.bk
  have k3 := h.bb
  have hlt := h.flt.lt
  obtain ⟨g0, g1, -⟩ := h.st
  have hk : SBk s (none : Option (Nat × Value)) s := .inl rfl
  have hs := (h6.block s (h.st.base hk).2 (by omega) fun he => h.nsq hc (he ▸ hk)).trans g1
  exact ⟨(row_at (i := 0) hs rfl).1, hv.low (by omega), h.bl.trans (h6.below k3 (by omega) (by omega))⟩
theorem QuW.fins {sb N q0 : Nat} {v0 : Value} {X : Int} {W' : World} (h : QuW b B K s p m f a e nz q xs (some (q0, v0)) w W) (hr : RndQ (sBlk q) K b p m nz sb N X W W') (hc : 0 < sCap q) (hN : 0 < rQ p m nz sb N) :
    W'.heap[s]? = some (.cells #[.pointer (some ⟨q0, 0, none⟩)] 182 (0, 0)) ∧ W'.heap[q0]? = some (.cells #[v0] 204 (0, 0)) ∧ IsS v0 ∧
      FVal (W'.setCell ⟨q0, 0, none⟩ (subS v0 0 0)) B b p m (rA p m nz sb N) 1 nz (rQ p m nz sb N) (X + rk p N) ∧ Below B w (W'.setCell ⟨q0, 0, none⟩ (subS v0 0 0)) := by
  obtain ⟨v, ws, e', h1, h2, h3, h4, h5, h6⟩ := hr
  have k1 := (h.own.lt hc).1
  have k2 := h.bk
  have k3 := h.bb
  have hlt := h.flt.lt
  obtain ⟨g0, g00, g1, g2, ys, g3, -⟩ := h.st
  simp only at g1 g2 g3 g00
  have hk : SBk s (some (q0, v0)) s := .inl rfl
  have hq : SBk s (some (q0, v0)) q0 := .inr ⟨_, rfl, .inl rfl⟩
  have hs := (h6.block s (h.st.base hk).2 (by omega) fun he => h.nsq hc (he ▸ hk)).trans g1
  have hi := (h6.block q0 (h.st.base hq).2 (by omega) fun he => h.nsq hc (he ▸ hq)).trans g2
  have hne : q0 ≠ sBlk q := fun he => h.nsq hc (he ▸ hq)
  refine ⟨hs, hi, g3.isS, ⟨v, e', (heap_setCell_other _ _ _ _ (by simp only; omega)).trans h1, fun _ => ⟨hN, ws, (h2.mono (by omega)).same fun _ => heap_setCell_other _ _ _ _ (by simp only; omega), h3, h4⟩⟩, bset (h.bl.trans (h6.below k3 (by omega) (by omega))) (by omega)⟩
end
set_option maxRecDepth 100000 in
set_option maxHeartbeats 6400000 in
theorem uquo_at (b B B1 B2 g1 g2 p m p1 m1 p2 m2 f0 M N : Nat) (a0 e0 E F : Int) (nz n1 n2 : Bool) (w : World) (h : FltR w b p m a0 f0 nz (.slice none 0 0) e0) (hB : B ≤ b) (h1 : FloatAt w B1 g1 p1 m1 1 n1 M E) (h2 : FloatAt w B2 g2 p2 m2 1 n2 N F)
    (hM : 0 < M) (hN : 0 < N) (hp1 : bl M ≤ p1) (hp2 : bl N ≤ p2) (hbM : bl M ≤ 2400) (hbN : bl N ≤ 2400) (hE : -1050000000 ≤ E ∧ E ≤ 1050000000) (hF : -1050000000 ≤ F ∧ F ≤ 1050000000) (hEF : -1700000000 ≤ E - F ∧ E - F ≤ 1700000000) (hb1 : b ≠ g1) (hb2 : b ≠ g2) (hp0 : 0 < p) (hp : p ≤ 64000) (hm : m ≤ 5) (hT : DivW w) (dg : 4 < B) (k : Nat) (hk : p < bl (qN M N k)) :
    Calls Tryz.prog 148 #[.pointer (some ⟨b, 0, none⟩), .pointer (some ⟨g1, 0, none⟩), .pointer (some ⟨g2, 0, none⟩)] w fun e' w' => e' = .returned (.tuple #[]) ∧
      FVal w' B b p m (rA p m nz 0 (2 * qN M N k + qS M N k)) 1 nz (rQ p m nz 0 (2 * qN M N k + qS M N k)) (E - F - k - 1 + rk p (2 * qN M N k + qS M N k)) ∧ Below B w w' := by
  obtain ⟨vx, ex, hx, hox, hgx, -, hex, -⟩ := h1.open hM hp1 (by omega)
  obtain ⟨vy, ey, hy, hoy, hgy, -, hey, -⟩ := h2.open hN hp2 (by omega)
  obtain ⟨c0, c1, c2, c3, c4, c5, c6⟩ := h.cells
  obtain ⟨x0, x1, x2, x3, x4, x5, x6⟩ := hx.cells
  obtain ⟨y0, y1, y2, y3, y4, y5, y6⟩ := hy.cells
  have hSx := hox.isS
  have hSy := hoy.isS
  obtain ⟨lx, hlx⟩ : ∃ l, l = nw M := ⟨_, rfl⟩
  obtain ⟨ly, hly⟩ : ∃ l, l = nw N := ⟨_, rfl⟩
  have hLx : sLen vx = lx := by rw [hox.len, cellsW_length, topN_length, hlx]
  have hLy : sLen vy = ly := by rw [hoy.len, cellsW_length, topN_length, hly]
  have hlxb : lx ≤ 38 := by rw [hlx]; exact nw_of_bl (by omega)
  have hlyb : ly ≤ 38 := by rw [hly]; exact nw_of_bl (by omega)
  obtain ⟨n0, hn0⟩ : ∃ n, n = p / 64 := ⟨_, rfl⟩
  have hn0b : n0 ≤ 1000 := by omega
  obtain ⟨dI, hdI⟩ : ∃ d : Int, d = (n0 : Int) + 1 - (lx : Int) + (ly : Int) := ⟨_, rfl⟩
  have e1 : (p : Int) / 64 = (n0 : Int) := by omega
  have e1' : (p : Int).tdiv 64 = (n0 : Int) := by rw [hn0]; rfl
  have e2 : IntKind.u32.wrap (n0 : Int) = (n0 : Int) := by rw [IntKind.wrap_u32]; omega
  have e3 : IntKind.i64.wrap (n0 : Int) = (n0 : Int) := wrap_i64_id (by omega) (by omega)
  have e4 : IntKind.i64.wrap ((n0 : Int) + 1) = (n0 : Int) + 1 := wrap_i64_id (by omega) (by omega)
  have e5 : IntKind.i64.wrap ((n0 : Int) + 1 - (lx : Int)) = (n0 : Int) + 1 - (lx : Int) := wrap_i64_id (by omega) (by omega)
  have e6 : IntKind.i64.wrap ((n0 : Int) + 1 - (lx : Int) + (ly : Int)) = dI := by rw [← hdI]; exact wrap_i64_id (by omega) (by omega)
  have hQo : ∀ w', (Ending.outgrown = Ending.returned (.tuple #[]) ∧ FVal w' B b p m (rA p m nz 0 (2 * qN M N k + qS M N k)) 1 nz (rQ p m nz 0 (2 * qN M N k + qS M N k)) (E - F - k - 1 + rk p (2 * qN M N k + qS M N k)) ∧ Below B w w') → False := fun _ h => by cases h.1
  obtain ⟨dd, hdd⟩ : ∃ d, d = n0 + 1 + ly - lx := ⟨_, rfl⟩
  obtain ⟨u, hu⟩ : ∃ u, u = 64 * nw M - bl M := ⟨_, rfl⟩
  obtain ⟨v, hv⟩ : ∃ v, v = 64 * nw N - bl N := ⟨_, rfl⟩
  obtain ⟨L, hL⟩ : ∃ l, l = lx + dd := ⟨_, rfl⟩
  have hwx : wv (topN M) = M * 2 ^ u := by rw [hu]; exact topN_wv hM
  have hroX : RO w vx (wds (M * 2 ^ u)) := by rw [← hwx, ← hgx.wds]; exact hox.ro topN_lt
  have hroY : RO w vy (wds (N * 2 ^ v)) := by rw [hv, ← topN_wv hN, ← hgy.wds]; exact hoy.ro topN_lt
  have hX0 : 0 < M * 2 ^ u := Nat.mul_pos hM (Nat.two_pow_pos _)
  have hnX : nw (M * 2 ^ u) = lx := by rw [← hwx, ← wds_length, ← hgx.wds, topN_length, hlx]
  have HRX := Lib.hid (And.intro hroX (And.intro hroY (And.intro hX0 hnX)))
  have HDD := Lib.hid (And.intro hdd (And.intro hu (And.intro hv hL)))
  have hddb : dd ≤ 1100 := by omega
  have HH := Lib.hid h
  have HX := Lib.hid (And.intro hx (And.intro hox hgx))
  have HY := Lib.hid (And.intro hy (And.intro hoy hgy))
  have HE := Lib.hid (And.intro hlx (And.intro hly (And.intro hn0 (And.intro hdI (And.intro hex hey)))))
  have HC := Lib.hid (And.intro hM (And.intro hN (And.intro hp1 (And.intro hp2 (And.intro hbM (And.intro hbN (And.intro hE (And.intro hF (And.intro hEF (And.intro hb1 (And.intro hb2 (And.intro hp0 (And.intro hp (And.intro hm (And.intro hT (And.intro dg hk))))))))))))))))
  clear h hx hox hgx hy hoy hgy hlx hly hn0 hdI hex hey hM hN hp1 hp2 hbM hbN hE hF hEF hb1 hb2 hp0 hp hm hT dg hk h1 h2 hdd hu hv hL hwx hroX hroY hX0 hnX
  go_enter_defers Tryz.func148, Tryz.ntmps148
  go_upto_region 2 with fail
  (refine wp_region_noPanic ?_; refine wp_region_hoist 14 (by kernel_rfl) (by kernel_rfl) ⟨fun _ _ _ h => h, fun _ w'' h => hQo w'' h⟩ ?_; simp only [List.take_succ_cons, List.take_zero, List.drop_succ_cons, List.drop_zero]; (repeat (go_big_quiet_step (fail))); refine wpQuiet_nil ?_; rintro _ ⟨nq, rfl⟩)
  go_wp2_with fail
  refine NoPanic.normal ?_
  have HE0 := Lib.hid (show (0 < dI ∧ dI = (dd : Int)) ∨ (dI ≤ 0 ∧ dd = 0) by
    obtain ⟨a, b, c, d, -⟩ := HE.out
    have := HDD.out.1
    omega)
  go_upto_if 39 with fail
  go_cut [7] from 38 to 56 (fun s7 wx => ∃ ad, s7 = ad ∧ QuS L (M * 2 ^ u * 18446744073709551616 ^ dd) w wx ad)
  case first =>
    rcases HE0.out with ⟨hd1, hd2⟩ | ⟨hd1, hd2⟩
    · have HNW : Hid (nw (M * 2 ^ u) = lx) := Lib.hid HRX.out.2.2.2
      subst hd2
      have e7 : (lx : Int) + (dd : Int) = (L : Int) := by have := HDD.out.2.2.2; omega
      have e7' : IntKind.i64.wrap ((lx : Int) + (dd : Int)) = (L : Int) := by rw [e7]; exact wrap_i64_id (by omega) (by have := HDD.out.2.2.2; omega)
      have hdd0 : 0 < dd := by omega
      have hLb : L ≤ 1200 := by have := HDD.out.2.2.2; omega
      have HLX : Hid (0 < lx ∧ L = lx + dd) := Lib.hid ⟨by rw [HE.out.1]; exact nw_pos HC.out.1, HDD.out.2.2.2⟩
      have hdL : dd ≤ L := by have := HDD.out.2.2.2; omega
      go_wp2_with (at_make; refine wpList_make_O rfl _ _ _ rfl elemT .i64 .i64 _ _ rfl rfl w.heap.size ?c1 ?c2 ?c3 ?c4 ?c5 ?_)
      all_goals first | omega | exact Nat.le_refl _ | skip
      intro ad w1 had ho hb hz
      have hb' : Below w.heap.size w w1 := undrewN hb
      have hSz := ho.isS
      have hLz : sLen ad = L := by rw [ho.len]; simp
      have hcz : L ≤ sCap ad := by have := hSz.le; omega
      have hSk : IsS (subS ad dd L) := subS_isS hSz hdL hcz
      have hX1 := HX.out.1.below hb'
      obtain ⟨-, -, -, -, -, x5, -⟩ := hX1.cells
      have hsub := ho.sub (l := dd) (n := L) hdL (by simp)
      have HQS : Hid (∀ (j : Nat) (w2 : World), Own w2 w.heap.size 116 (subS ad dd L) (cellsW (topN M)) → Below w.heap.size (w1.drewN j) w2 → FrB (sBlk (subS ad dd L)) (sOff (subS ad dd L)) (sOff (subS ad dd L) + (L - dd)) (w1.drewN j) w2 → QuS L (M * 2 ^ u * 18446744073709551616 ^ dd) w w2 ad) := Lib.hid (fun j w2 k1 k2 k3 => by
        have hbk : sBlk (subS ad dd L) = sBlk ad := subS_blk hSz
        have hof : sOff (subS ad dd L) = sOff ad + dd := subS_off hSz (by have := HLX.out; omega)
        rw [hbk, hof, show sOff ad + dd + (L - dd) = sOff ad + L by omega] at k3
        have hL2 := HDD.out.2.2.2
        have hwx : wv (topN M) = M * 2 ^ u := by rw [HDD.out.2.1]; exact topN_wv HC.out.1
        have hle : (cellsW (topN M)).length = L - dd := by rw [cellsW_length, topN_length, ← HE.out.1]; omega
        have hp := Own.patch (ho.drewN j) hdL (by simp) hle k1 k3
        have ht1 : (List.replicate L (Value.int .u64 0)).take dd = List.replicate dd (Value.int .u64 0) := by rw [List.take_replicate]; congr 1; omega
        have ht2 : (List.replicate L (Value.int .u64 0)).drop L = [] := by simp
        rw [ht1, ht2, List.append_nil, cellsW_zeros, cellsW_append] at hp
        have hw : wds (M * 2 ^ u * 18446744073709551616 ^ dd) = List.replicate dd 0 ++ topN M := by
          rw [wds_shl HNW.out HRX.out.2.2.1, ← hwx, ← HX.out.2.2.wds]
        refine ⟨hSz, hLz, ?_, hb'.trans (undrewN k2)⟩
        rw [hw]
        refine hp.ro fun e he => ?_
        rcases List.mem_append.1 he with h | h
        · rw [List.eq_of_mem_replicate h]; decide
        · exact topN_lt e h)
      have HSUB := Lib.hid hsub
      have HXA : Hid (∀ j, ∀ i v, (cellsW (topN M))[i]? = some v → (w1.drewN j).cell? ⟨sBlk vx, sOff vx + i, none⟩ = some v) := Lib.hid (fun j => by
        have h1 := (HRX.out.1.below hb').rw
        have hwx : wv (topN M) = M * 2 ^ u := by rw [HDD.out.2.1]; exact topN_wv HC.out.1
        rw [← hwx, ← HX.out.2.2.wds] at h1
        exact h1.at)
      clear had hz ho hb hb' hsub hX1 x0 x1 x2 x3 x4 x6 y0 y1 y2 y3 y4 y6 c0 c1 c2 c3 c4 c5 c6
      go_upto_region 5 with fail
      (refine wp_region_noPanic ?_; refine wp_region_hoist 7 (by kernel_rfl) (by kernel_rfl) ⟨fun _ _ _ h => h, fun _ w'' h => hQo w'' h⟩ ?_; simp only [List.take_succ_cons, List.take_zero, List.drop_succ_cons, List.drop_zero]; (repeat (go_big_quiet_step (fail))); refine wpQuiet_nil ?_; rintro _ ⟨nq, rfl⟩)
      go_wp2_with (refine wpList_copy_W (o := ⟨some 55, _, _, _, _, _⟩) rfl (.tmp 50) (.tmp 54) 108 108 rfl 116 Tryz.underlying108 sizeW (subS ad dd L) vx rfl rfl w.heap.size _ (HSUB.out.drewN _) (cellsW (topN M)) ?d1 hSx ?d2 ?d3 (cellsW_one _) ?_)
      case d1 => rw [cellsW_length, topN_length, ← HE.out.1]; simp; have := HDD.out.2.2.2; omega
      case d2 => rw [cellsW_length, topN_length, ← HE.out.1]; exact hLx
      case d3 => exact HXA.out _
      intro w2 k1 k2 k3 _
      have HQ := Lib.hid (HQS.out _ w2 k1 k2 k3)
      clear k1 k2 k3
      go_wp2_with fail
      refine NoPanic.normal ?_
      go_wp2
      go_meet
      case rel => exact ⟨ad, rfl, HQ.out⟩
    · have td : decide (dI > 0) = false := decide_eq_false (by omega)
      have td' : decide (0 < dI) = false := decide_eq_false (by omega)
      have HQS : Hid (∀ k, QuS L (M * 2 ^ u * 18446744073709551616 ^ dd) w (w.drewN k) vx) := Lib.hid (fun k => by
        refine ⟨hSx, by rw [hLx, HDD.out.2.2.2, hd2, Nat.add_zero], ?_, undrewN' (Below.refl _ _)⟩
        rw [hd2, Nat.pow_zero, Nat.mul_one]
        exact HRX.out.1.below (undrewN' (Below.refl _ _)))
      clear hd2
      go_wp2
      all_goals first | (exfalso; omega) | (go_meet; case rel => exact ⟨vx, rfl, HQS.out _⟩)
  case rest =>
    obtain ⟨ad, had, hqs⟩ := hcut
    have had := had.symm
    subst had
    have HQS := Lib.hid hqs
    have hSa := hqs.isS
    have hLa := hqs.len
    have HZ := Lib.hid (HH.out.below hqs.bl)
    have HX1 := Lib.hid (HX.out.1.below hqs.bl)
    have HY1 := Lib.hid (HY.out.1.below hqs.bl)
    have HT1 := Lib.hid (HC.out.2.2.2.2.2.2.2.2.2.2.2.2.2.2.1.below hqs.bl)
    clear hqs x0 x1 x2 x3 x4 x5 x6 y0 y1 y2 y3 y4 y5 y6 c0 c1 c2 c3 c4 c5 c6
    obtain ⟨-, -, -, -, -, y5, -⟩ := HY1.out.cells
    obtain ⟨g, hg⟩ : ∃ g, g = L - ly := ⟨_, rfl⟩
    have hLg : L = ly + g ∧ n0 + 1 ≤ g ∧ g ≤ 1200 := by have := HDD.out; omega
    obtain ⟨hLg1, hLg2, hLg3⟩ := hLg
    have e8 : (L : Int) - (ly : Int) = (g : Int) := by omega
    have e8' : IntKind.i64.wrap (g : Int) = (g : Int) := wrap_i64_id (by omega) (by omega)
    have HLG := Lib.hid hLg1
    clear hg hLg1
    go_wp2_with fail
    refine (getStack_any _).mono ?_
    rintro _ _ ⟨rfl, rfl⟩
    obtain ⟨K, hK⟩ : ∃ K, K = wc.heap.size := ⟨_, rfl⟩
    obtain ⟨V, hV⟩ : ∃ V, V = wc.alloc (.cells #[.pointer none] 182) := ⟨_, rfl⟩
    rw [← hV, ← hK]
    have hbV : Below wc.heap.size wc V := by rw [hV]; exact fbone _
    have rs : V.heap[K]? = some (.cells #[.pointer none] 182 (0, 0)) := by rw [hV, hK]; exact heap_alloc_new _ _
    have hVz : V.heap.size = K + 1 := by rw [hV, hK]; simp
    have HZV := Lib.hid (HZ.out.below hbV)
    have HXV := Lib.hid (HX1.out.below hbV)
    have HYV := Lib.hid (HY1.out.below hbV)
    have hg1K : g1 < K := by rw [hK]; exact HX1.out.lt
    have hg2K : g2 < K := by rw [hK]; exact HY1.out.lt
    have hbK : b < K := by rw [hK]; exact HZ.out.lt
    have hBw : B ≤ w.heap.size := Nat.le_trans hB (Nat.le_of_lt HH.out.lt)
    have hBV : Below B w V := (HQS.out.bl.mono hBw).trans (hbV.mono (by have := HQS.out.bl.size; omega))
    obtain ⟨Q, hQ⟩ : ∃ Q, Q = M * 2 ^ u * 18446744073709551616 ^ dd / (N * 2 ^ v) := ⟨_, rfl⟩
    obtain ⟨R, hR⟩ : ∃ R, R = M * 2 ^ u * 18446744073709551616 ^ dd % (N * 2 ^ v) := ⟨_, rfl⟩
    have hD0 : 0 < N * 2 ^ v := Nat.mul_pos HC.out.2.1 (Nat.two_pow_pos _)
    have hNX0 : 0 < M * 2 ^ u * 18446744073709551616 ^ dd := Nat.mul_pos HRX.out.2.2.1 (Nat.pow_pos (by decide))
    have hwX : wds (M * 2 ^ u * 18446744073709551616 ^ dd) = List.replicate dd 0 ++ wds (M * 2 ^ u) := wds_shl HRX.out.2.2.2 HRX.out.2.2.1
    have hnX : nw (M * 2 ^ u * 18446744073709551616 ^ dd) = L := by
      rw [← wds_length, hwX, List.length_append, List.length_replicate, wds_length, HRX.out.2.2.2, HDD.out.2.2.2]; omega
    have hnD : nw (N * 2 ^ v) = ly := by
      have h := topN_wv HC.out.2.1
      rw [← HDD.out.2.2.1] at h
      rw [← h, ← wds_length, ← HY.out.2.2.wds, topN_length, HE.out.2.1]
    have hsA : sBlk ad ≠ K := by
      obtain ⟨c, hc⟩ := HQS.out.ro.row (by rw [wds_length, hnX]; omega)
      have := get_lt hc
      omega
    have hsY : sBlk vy ≠ K := by
      have h1 := HRX.out.2.1
      obtain ⟨c, hc⟩ := h1.row (by rw [wds_length, hnD, HE.out.2.1]; exact nw_pos HC.out.2.1)
      have h2 := get_lt hc
      have h3 := HQS.out.bl.size
      omega
    have HDIV : Hid (∀ k, Calls Tryz.prog 165 #[.slice none 0 0, .pointer (some ⟨K, 0, none⟩), .slice none 0 0, ad, vy] (V.drewN k) fun e w6 => ∃ q r, e = .returned (.tuple #[q, r]) ∧ IsS q ∧ IsS r ∧ sLen q = nw Q ∧ sLen r = nw R ∧ FltR w6 b p m a0 f0 nz (.slice none 0 0) e0 ∧
        FltR (w6.setCell ⟨b, 5, none⟩ q) g1 p1 m1 0 1 n1 vx ex ∧ FltR (w6.setCell ⟨b, 5, none⟩ q) g2 p2 m2 0 1 n2 vy ey ∧ ∃ o', QuW b B K K p m f0 a0 e0 nz q (wds Q) o' w (w6.setCell ⟨b, 5, none⟩ q)) := Lib.hid (fun k => by
      have hb2 : Below wc.heap.size wc (V.drewN k) := undrewN' hbV
      refine (div_to (.slice none 0 0) ad vy [] (M * 2 ^ u * 18446744073709551616 ^ dd) (N * 2 ^ v) K K none (V.drewN k) ⟨Nat.le_refl _, rs, rfl⟩ (Own.nil _ _ _) (fun h => absurd h nil_cap) (HQS.out.ro.below hb2) (Al.nil _) (fun h => ?_) ((HRX.out.2.1.below HQS.out.bl).below hb2) (fun h => ?_) hD0 (by omega) (by omega) (by show K ≤ V.heap.size; omega) (HT1.out.below hb2) (Nat.lt_of_lt_of_le HC.out.2.2.2.2.2.2.2.2.2.2.2.2.2.2.2.1 (by omega))).mono ?_
      · rcases h with h | ⟨_, h, _⟩
        · exact hsA h
        · cases h
      · rcases h with h | ⟨_, h, _⟩
        · exact hsY h
        · cases h
      rintro _ w6 ⟨q, r, rfl, o', hd, hr, -⟩
      rw [← hQ] at hd
      rw [← hR] at hr
      obtain ⟨k1, k2⟩ := QuW.ofDiv hd (show FltR (V.drewN k) b p m a0 f0 nz (.slice none 0 0) e0 from HZV.out) (undrewN' hBV) hbK hB
      refine ⟨q, r, rfl, hd.own.isS, hr.isS, by rw [hd.own.len, cellsW_length, wds_length], by rw [hr.len, cellsW_length, wds_length], k1, ?_, ?_, o', k2⟩
      · exact (heap_setCell_other _ _ _ _ (by simpa using HC.out.2.2.2.2.2.2.2.2.2.1.symm)).trans ((hd.below.block g1 hg1K).trans HXV.out)
      · exact (heap_setCell_other _ _ _ _ (by simpa using HC.out.2.2.2.2.2.2.2.2.2.2.1.symm)).trans ((hd.below.block g2 hg2K).trans HYV.out))
    have hk0 : 0 < 2 * qN M N k + qS M N k := by
      have h1 := HC.out.2.2.2.2.2.2.2.2.2.2.2.2.2.2.2.2
      have : 0 < qN M N k := by
        refine Nat.pos_of_ne_zero fun h0 => ?_
        rw [h0, bl_zero] at h1; omega
      omega
    have hpQ : p < bl Q := by
      rw [hQ]
      refine bl_quo (a := 64 * L - 1) (b := 64 * ly) hD0 ?_ ?_ ?_
      · have h1 := nw_bl (n := M * 2 ^ u) HRX.out.2.2.1
        have h2 : bl (M * 2 ^ u) = 64 * lx := by
          rw [bl_mul HC.out.1]
          have := nw_bl HC.out.1
          have h3 := HDD.out.2.1
          have h4 := HE.out.1
          omega
        have h3 := bl_ge HRX.out.2.2.1
        rw [w_two, h2] at *
        have h4 := Nat.mul_le_mul_right (2 ^ (64 * dd)) h3
        rw [← Nat.pow_add] at h4
        refine Nat.le_trans (Nat.pow_le_pow_right (by decide) ?_) h4
        have := HDD.out.2.2.2
        have := HE.out.1
        have := nw_pos HC.out.1
        omega
      · have h1 := lt_nw (N * 2 ^ v)
        rw [hnD, w_two] at h1
        exact h1
      · have h1 := HE.out.2.2.1
        have h2 := HLG.out
        omega
    have hQ0 : 0 < Q := Nat.pos_of_ne_zero fun h0 => by rw [h0, bl_zero] at hpQ; omega
    have HPQ := Lib.hid (And.intro hpQ hQ0)
    have HQR := Lib.hid (And.intro hQ hR)
    obtain ⟨lq, hlq⟩ : ∃ l, l = nw Q := ⟨_, rfl⟩
    obtain ⟨lr, hlr⟩ : ∃ l, l = nw R := ⟨_, rfl⟩
    obtain ⟨s0, hs0⟩ : ∃ s, s = 64 * nw Q - bl Q := ⟨_, rfl⟩
    obtain ⟨sb, hsb⟩ : ∃ s, s = qS (M * 2 ^ u) (N * 2 ^ v) (64 * dd) := ⟨_, rfl⟩
    have hsb1 : sb ≤ 1 := by rw [hsb]; exact qS_le _ _ _
    have hsb2 : sb = if lr = 0 then 0 else 1 := by
      rw [hsb]
      unfold qS
      rw [← w_two, ← hR, hlr]
      by_cases h0 : R = 0
      · rw [if_pos h0, if_pos (nw_eq_zero.2 h0)]
      · rw [if_neg h0, if_neg (fun h => h0 (nw_eq_zero.1 h))]
    have hlqb : lq ≤ 1300 := by
      rw [hlq]
      refine Nat.le_trans (nw_mono (Nat.le_of_eq hQ)) (Nat.le_trans (nw_mono (Nat.div_le_self _ _)) ?_)
      rw [hnX]; have := HLG.out; omega
    have hlq0 : 0 < lq := by rw [hlq]; exact nw_pos hQ0
    have hs0b : s0 < 64 := by rw [hs0, nw_bl hQ0]; omega
    have hexy : -1800000000 ≤ ex - ey ∧ ex - ey ≤ 1800000000 ∧ -2000000000 ≤ ex ∧ ex ≤ 2000000000 ∧ -2000000000 ≤ ey ∧ ey ≤ 2000000000 := by
      have h1 := HE.out.2.2.2.2
      have h2 := HC.out
      omega
    obtain ⟨hx1, hx2, hx3, hx4, hx5, hx6⟩ := hexy
    obtain ⟨xe, hxe⟩ : ∃ x : Int, x = ex - ey - ((g : Int) - (lq : Int)) * 64 := ⟨_, rfl⟩
    have f1 : IntKind.i64.wrap ex = ex := wrap_i64_id (by omega) (by omega)
    have f2 : IntKind.i64.wrap ey = ey := wrap_i64_id (by omega) (by omega)
    have f3 : IntKind.i64.wrap (ex - ey) = ex - ey := wrap_i64_id (by omega) (by omega)
    have f4 : IntKind.i64.wrap ((g : Int) - (lq : Int)) = (g : Int) - (lq : Int) := wrap_i64_id (by omega) (by omega)
    have f5 : IntKind.i64.wrap (((g : Int) - (lq : Int)) * 64) = ((g : Int) - (lq : Int)) * 64 := wrap_i64_id (by omega) (by omega)
    have f6 : IntKind.i64.wrap (ex - ey - ((g : Int) - (lq : Int)) * 64) = xe := by rw [hxe]; exact wrap_i64_id (by omega) (by omega)
    have f7 : IntKind.i64.wrap (xe - (s0 : Int)) = xe - (s0 : Int) := wrap_i64_id (by omega) (by omega)
    have HFN : Hid (∀ (q : Value) (o : Option (Nat × Value)) (w7 : World), QuW b B K K p m f0 a0 e0 nz q (wds Q) o w w7 → Calls Tryz.prog 143 #[q] w7 fun e w8 => e = .returned (.int .i64 (s0 : Int)) ∧ QuW b B K K p m f0 a0 e0 nz q (topN Q) o w w8) := Lib.hid (fun q o w7 h => by
      have hc : 0 < sCap q := by have h1 := h.own.isS.le; have h2 := h.own.len; rw [cellsW_length, wds_length, ← hlq] at h2; omega
      refine (fnorm_val q Q K w7 h.own hQ0 (by omega)).mono ?_
      rintro _ w8 ⟨rfl, k1, k2, k3⟩
      exact ⟨by rw [hs0], h.turn k1 k2 k3 hc⟩)
    have HSX : Hid (∀ (q : Value) (o : Option (Nat × Value)) (w8 : World), QuW b B K K p m f0 a0 e0 nz q (topN Q) o w w8 → Calls Tryz.prog 131 #[.pointer (some ⟨b, 0, none⟩), .int .i64 (xe - (s0 : Int)), .int .u64 sb] w8 fun e' w9 => e' = .returned (.tuple #[]) ∧ 0 < sCap q ∧ RndQ (sBlk q) K b p m nz sb (Q * 2 ^ s0) (xe - (s0 : Int) - 64 * (lq : Int)) w8 w9) := Lib.hid (fun q o w8 h => by
      have hc : 0 < sCap q := by have h1 := h.own.isS.le; have h2 := h.own.len; rw [cellsW_length, topN_length, ← hlq] at h2; omega
      obtain ⟨t1, t2, t3, t4, t5⟩ := topN_good (p := bl Q) hQ0 (Nat.le_refl _) (by omega)
      have hbq := nw_bl hQ0
      have := setExp_anyX b K p m f0 sb a0 e0 (xe - (s0 : Int)) nz q (topN Q) w8 h.flt h.own topN_lt t1 t4 t2 HC.out.2.2.2.2.2.2.2.2.2.2.2.1 (by have := HC.out.2.2.2.2.2.2.2.2.2.2.2.2.1; omega) HC.out.2.2.2.2.2.2.2.2.2.2.2.2.2.1 hsb1 (.inr (by rw [topN_length]; omega)) (by omega) (by omega)
      rw [topN_wv hQ0, topN_length, ← hs0, ← hlq] at this
      exact this.mono fun _ _ h => ⟨h.1, hc, h.2⟩)
    have hqn : qN (M * 2 ^ u) (N * 2 ^ v) (64 * dd) = Q := by unfold qN; rw [hQ, w_two]
    obtain ⟨z1, z2, z3⟩ := quo_both (p := p) (m := m) (u := u) (v := v) (t := 64 * dd) (s := s0) (k := k) nz HC.out.2.1 (by rw [hqn]; exact hpQ) HC.out.2.2.2.2.2.2.2.2.2.2.2.2.2.2.2.2
    rw [hqn, ← hsb] at z1 z2
    rw [hqn] at z3
    have z4 : xe - (s0 : Int) - 64 * (lq : Int) + (rk p (Q * 2 ^ s0) : Nat) = E - F - (k : Int) - 1 + (rk p (2 * qN M N k + qS M N k) : Nat) := by
      have h1 := HE.out
      have h2 := HDD.out
      have h3 := HLG.out
      have h4 := nw_bl HC.out.1
      have h5 := nw_bl HC.out.2.1
      omega
    have hrq : 0 < rQ p m nz sb (Q * 2 ^ s0) := by
      rw [z1]; exact rQ_pos nz 0 HC.out.2.2.2.2.2.2.2.2.2.2.2.1 hk0
    have HZZ := Lib.hid (And.intro z1 (And.intro z2 (And.intro z4 hrq)))
    rw [← hlq, ← hlr] at HDIV
    have HZ5 := Lib.hid HZV.out
    obtain ⟨-, -, -, -, -, c5, -⟩ := HZV.out.cells
    obtain ⟨-, -, -, -, -, y5v, -⟩ := HYV.out.cells
    have hLY : sLen vy = ly := hLy
    clear y5 e1 e1' e2 e3 e4 e5 e6 hxe hsb hlq hlr hs0 hQ hR hD0 hNX0 hwX hnX hnD hsA hsY hk0 hpQ hQ0 hqn z1 z2 z3 z4 hrq hBw hVz rs hbV hV hK HZV HXV HYV HT1 HX1 HY1 HZ HRX HH HX HY HE HE0 HQS HPQ HQR hLg2 hLg3 e8 e8' hn0b
    go_upto_region 10 with fail
    (refine wp_region_noPanic ?_; refine wp_region_hoistP [0, 1, 2, 3, 5, 6, 7, 8, 9] [4, 10] [] [11, 12, 13, 14, 15, 16, 17, 18] (by kernel_rfl) (by kernel_rfl) ⟨fun _ _ _ h => h, fun _ w'' h => hQo w'' h⟩ ?_; simp only [pickOps, List.flatMap_cons, List.flatMap_nil, Option.toList_some, List.cons_append, List.nil_append, List.getElem?_toArray, List.getElem?_cons_zero, List.getElem?_cons_succ]; (repeat (go_big_quiet_step (fail))); refine wpQuiet_nil ?_; (repeat (go_big_quiet_step (fail))); refine wpQuiet_nil ?_; rintro _ ⟨nq, rfl⟩; (repeat (go_big_quiet_step (fail))); refine wpQuiet_nil ?_)
    go_wp2_with fail
    (with_reducible refine (HDIV.out nq).mono ?_)
    rintro _ w6 ⟨q, r, rfl, hSq, hSr, hLq, hLr, hz6, hx7, hy7, o', hqw⟩
    obtain ⟨-, -, -, -, -, k5, -⟩ := hz6.cells
    obtain ⟨-, -, -, -, -, l5, -⟩ := hz6.free
    obtain ⟨W7, hW7⟩ : ∃ W7, W7 = w6.setCell ⟨b, 5, none⟩ q := ⟨_, rfl⟩
    rw [← hW7] at hx7 hy7 hqw
    have HQW := Lib.hid hqw
    obtain ⟨-, -, -, -, -, -, x6⟩ := hx7.cells
    obtain ⟨-, -, -, -, -, -, y6⟩ := hy7.cells
    obtain ⟨-, -, -, -, -, z5, -⟩ := hqw.flt.cells
    clear hx7 hy7 hqw hz6 HDIV c5 y5v HZ5
    go_wp2_with fail
    refine NoPanic.normal ?_
    rw [← hW7]
    clear hW7 k5 l5
    go_upto_region 11 with fail
    (refine wp_region_noPanic ?_; refine wp_region_hoist 21 (by kernel_rfl) (by kernel_rfl) ⟨fun _ _ _ h => h, fun _ w'' h => hQo w'' h⟩ ?_; simp only [List.take_succ_cons, List.take_zero, List.drop_succ_cons, List.drop_zero]; (repeat (go_big_quiet_step (fail))); refine wpQuiet_nil ?_; rintro _ ⟨nq, rfl⟩)
    go_wp2_with fail
    refine NoPanic.normal ?_
    obtain ⟨W8, hW8⟩ : ∃ W8, W8 = W7.drewN nq := ⟨_, rfl⟩
    have HQ8 := Lib.hid (HQW.out.drewN nq)
    rw [← hW8] at HQ8 ⊢
    clear hW8 x6 y6 z5 HQW
    obtain ⟨-, -, -, -, -, z5, -⟩ := HQ8.out.flt.cells
    go_upto_if 105 with fail
    go_cut [13] from 103 to 105 (fun s13 wx => s13 = .int .u64 sb ∧ W8 = wx)
    case first =>
      by_cases h0 : lr = 0
      · have t0 : decide ((0 : Int) < (lr : Int)) = false := decide_eq_false (by omega)
        have t0' : decide (0 < lr) = false := decide_eq_false (by omega)
        rw [if_pos h0] at hsb2
        have HS := Lib.hid hsb2
        have hp : ¬ 0 < lr := by omega
        clear h0 hsb2
        go_wp2
        all_goals first | (exfalso; omega) | (go_meet; exact ⟨by rw [HS.out]; rfl, rfl⟩)
      · have t0 : decide ((0 : Int) < (lr : Int)) = true := decide_eq_true (by omega)
        have t0' : decide (0 < lr) = true := decide_eq_true (by omega)
        rw [if_neg h0] at hsb2
        have HS := Lib.hid hsb2
        have hp : 0 < lr := by omega
        clear h0 hsb2
        go_wp2
        all_goals first | (exfalso; omega) | (go_meet; exact ⟨by rw [HS.out]; rfl, rfl⟩)
    case rest =>
      obtain ⟨rfl, rfl⟩ := hcut
      clear hsb2
      go_wp2_with fail
      refine (HFN.out _ _ _ HQ8.out).mono ?_
      rintro _ w9 ⟨rfl, hq9⟩
      have HQ9 := Lib.hid hq9
      clear hq9 z5
      go_wp2_with fail
      refine (HSX.out _ _ _ HQ9.out).mono ?_
      rintro _ w10 ⟨rfl, hc, hr10⟩
      have HR := Lib.hid hr10
      have HCC := Lib.hid hc
      clear hr10 hc
      match o', HQ9 with
      | none, HQ9 =>
        have HF := Lib.hid (HQ9.out.fin0 HR.out HCC.out HZZ.out.2.2.2)
        have HFR := Lib.hid (free_d K .returning _ HF.out.1)
        have HFP : Hid (FVal w10 B b p m (rA p m nz 0 (2 * qN M N k + qS M N k)) 1 nz (rQ p m nz 0 (2 * qN M N k + qS M N k)) (E - F - k - 1 + rk p (2 * qN M N k + qS M N k)) ∧ Below B w w10) := Lib.hid (by
          have h := HF.out.2
          rw [HZZ.out.1, HZZ.out.2.1, HZZ.out.2.2.1] at h
          exact h)
        go_wp2
        refine leaves_cons (f := 121) (args := #[.pointer (some ⟨K, 0, none⟩)]) (by simp) (by simp [go_sem]) ?_
        refine HFR.out.mono ?_
        rintro e u' w'' ⟨rfl, rfl, rfl⟩
        simp [Leaves, settle, results, Tryz.results148, go_sem]
        exact HFP.out
      | some (q0, v0), HQ9 =>
        have HF := Lib.hid (HQ9.out.fins HR.out HCC.out HZZ.out.2.2.2)
        have HFR := Lib.hid (free_some K q0 v0 .returning _ HF.out.1 HF.out.2.1 HF.out.2.2.1)
        have HFP : Hid (FVal (w10.setCell ⟨q0, 0, none⟩ (subS v0 0 0)) B b p m (rA p m nz 0 (2 * qN M N k + qS M N k)) 1 nz (rQ p m nz 0 (2 * qN M N k + qS M N k)) (E - F - k - 1 + rk p (2 * qN M N k + qS M N k)) ∧ Below B w (w10.setCell ⟨q0, 0, none⟩ (subS v0 0 0))) := Lib.hid (by
          have h := HF.out.2.2.2
          rw [HZZ.out.1, HZZ.out.2.1, HZZ.out.2.2.1] at h
          exact h)
        go_wp2
        refine leaves_cons (f := 121) (args := #[.pointer (some ⟨K, 0, none⟩)]) (by simp) (by simp [go_sem]) ?_
        refine HFR.out.mono ?_
        rintro e u' w'' ⟨rfl, rfl, rfl⟩
        simp [Leaves, settle, results, Tryz.results148, go_sem]
        exact HFP.out
end Go.Proofs.YtllhnjpnkmjopaaGreatDoor
