/-
Texts of this proof, joined: DlB. No condition.
-/
import Derived.Test.YtllhnjpnkmjopaaGreatDoorK06
import Derived.Test.YtllhnjpnkmjopaaGreatDoorK26
import Derived.Test.YtllhnjpnkmjopaaGreatDoorK27
import Derived.Deep.CutRange
import Derived.Deep.DeepCutAuto
namespace Go.Proofs.YtllhnjpnkmjopaaGreatDoor
open Go.RowKit

def DivW (w : World) : Prop := w.cell? ⟨4, 0, none⟩ = some (.int .i64 40)
theorem DivW.below {w w' : World} (h : DivW w) (hb : Below w.heap.size w w') : DivW w' := by
  have hlt := World.block_lt_of_cell? w _ h
  unfold DivW
  rw [hb.cell (p := ⟨4, 0, none⟩) hlt]; exact h
theorem DivW.belowB {w w' : World} {B : Nat} (h : DivW w) (hb : Below B w w') (hg : 4 < B) : DivW w' := by
  unfold DivW
  rw [hb.cell (p := ⟨4, 0, none⟩) hg]; exact h
theorem DivW.drewN {w : World} (h : DivW w) (n : Nat) : DivW (w.drewN n) := h
structure DlP (z z2 q r : Value) (N D B s L : Nat) (o o' : Option (Nat × Value)) (w w' : World) : Prop where
  oq : Own w' B 116 q (cellsW (wds (N / D)))
  or_ : Own w' B 116 r (cellsW (wds (N % D)))
  atq : 0 < sCap q → (0 < sCap z ∧ sBlk q = sBlk z) ∨ w.heap.size ≤ sBlk q
  atr : 0 < sCap r → (0 < sCap z2 ∧ sBlk r = sBlk z2) ∨ w.heap.size ≤ sBlk r
  ne : 0 < sCap q → 0 < sCap r → sBlk q ≠ sBlk r
  st : StO w' B s L o'
  sb : ∀ k, SBk s o' k → SBk s o k ∨ w.heap.size ≤ k
  nsq : 0 < sCap q → ¬ SBk s o' (sBlk q)
  nsr : 0 < sCap r → ¬ SBk s o' (sBlk r)
  below : Below B w w'
  fr : ∀ k, k < w.heap.size → ¬ SBk s o k → (0 < sCap z → k ≠ sBlk z) → (0 < sCap z2 → k ≠ sBlk z2) → w'.heap[k]? = w.heap[k]?
structure LgP (u v : Value) (U V lu n B s L : Nat) (o : Option (Nat × Value)) (w w' : World) : Prop where
  ou : Own w' B 116 u (cellsW (wdsN U (lu + 1)))
  ov : Own w' B 116 v (cellsW (wdsN V n))
  st : StO w' B s L o
  below : Below B w w'
  fr : ∀ k, k < w.heap.size → k ≠ sBlk u → k ≠ sBlk v → w'.heap[k]? = w.heap[k]?
theorem RO.same {w w' : World} {x : Value} {xs : List Nat} (h : RO w x xs) (hs : 0 < xs.length → w'.heap[sBlk x]? = w.heap[sBlk x]?) : RO w' x xs := by
  refine ⟨⟨⟨h.rw.isS, h.rw.ri.len, fun j hj => ?_⟩, h.rw.lt⟩, fun hl => ?_⟩
  · exact (World.cell?_of_block (hs (by rw [ints_length] at hj; omega))).trans (h.rw.ri.cell j hj)
  · obtain ⟨c, hr⟩ := h.row hl
    exact ⟨c, (hs hl).trans hr⟩
theorem Cl.of {s L : Nat} {o : Option (Nat × Value)} {y : Value} (h : 0 < sCap y → ¬ SBk s o (sBlk y)) : Cl o L y := fun qv hqv h1 h2 h3 => absurd (.inr ⟨qv, hqv, .inr ⟨h1, h3⟩⟩) (h h2)
structure Lg0 (u v x y : Value) (N D lu n B s L : Nat) (o : Option (Nat × Value)) (w : World) : Prop where
  ou : ∃ us : List Value, us.length = lu + 1 ∧ Own w B 116 u us
  ov : ∃ vs : List Value, vs.length = n ∧ Own w B 116 v vs
  rx : RO w x (wds N)
  ry : RO w y (wds D)
  st : StO w B s L o
  uv : sBlk u ≠ sBlk v
  xv : sBlk x ≠ sBlk v
  xu : sBlk x = sBlk u → sOff x ≤ sOff u
  yv : sBlk y ≠ sBlk v
theorem Lg0.drewN {u v x y : Value} {N D lu n B s L : Nat} {o : Option (Nat × Value)} {w : World} (h : Lg0 u v x y N D lu n B s L o w) (k : Nat) : Lg0 u v x y N D lu n B s L o (w.drewN k) := by
  obtain ⟨us, u1, u2⟩ := h.ou
  obtain ⟨vs, v1, v2⟩ := h.ov
  have hb : Below w.heap.size w (w.drewN k) := undrewN' (Below.refl _ _)
  exact ⟨⟨us, u1, u2.drewN k⟩, ⟨vs, v1, v2.drewN k⟩, h.rx.below hb, h.ry.below hb, h.st.below hb, h.uv, h.xv, h.xu, h.yv⟩
structure Lg1 (u v x : Value) (N V lu n B s L : Nat) (o : Option (Nat × Value)) (w w1 : World) : Prop where
  ou : ∃ us : List Value, us.length = lu + 1 ∧ Own w1 B 116 u us
  ov : Own w1 B 116 v (cellsW (wdsN V n))
  rx : RO w1 x (wds N)
  st : StO w1 B s L o
  below : Below B w w1
  fr : ∀ k, k < w.heap.size → k ≠ sBlk v → w1.heap[k]? = w.heap[k]?
theorem Lg0.laidV {u v x y : Value} {N D V lu n B s L : Nat} {o : Option (Nat × Value)} {w w1 : World} (h : Lg0 u v x y N D lu n B s L o w) (hn : 0 < n) (p : VvP v n B V w w1) : Lg1 u v x N V lu n B s L o w w1 := by
  obtain ⟨p1, p2, p3⟩ := p
  obtain ⟨us, u1, u2⟩ := h.ou
  obtain ⟨vs, v1, v2⟩ := h.ov
  have hc : 0 < sCap v := by have := v2.isS.le; have := v2.len; omega
  refine ⟨⟨us, u1, u2.frbx p3 (fun he => absurd he h.uv)⟩, p1, h.rx.same fun _ => ?_, h.st.frb p3 (v2.rowOf hc), p2, fun k hk hne => p3.only k hk hne⟩
  by_cases hlt : sBlk x < w.heap.size
  · exact p3.only _ hlt h.xv
  · rename_i hl
    obtain ⟨c, hr⟩ := h.rx.row hl
    exact absurd (get_lt hr) hlt
theorem Lg1.laidU {u v x : Value} {N U V lu n B s L c : Nat} {o : Option (Nat × Value)} {w w1 w2 : World} (h : Lg1 u v x N V lu n B s L o w w1) (huv : sBlk u ≠ sBlk v) (p : VvP (subS u 0 lu) lu B U w1 w2) (hc : c = wdg U lu) (hl : lu ≤ 1000000) :
    (w2.frozen? ⟨sBlk u, sOff u + lu, none⟩ = false ∧ ∃ t, w2.cell? ⟨sBlk u, sOff u + lu, none⟩ = some t) ∧ LgP u v U V lu n B s L o w (w2.setCell ⟨sBlk u, sOff u + lu, none⟩ (.int .u64 (c : Int))) := by
  obtain ⟨us, u1, u2⟩ := h.ou
  have hS := u2.isS
  have hcap : 0 < sCap u := by have := hS.le; have := u2.len; omega
  have hpt := VvP.patch (l := 0) (n := lu) u2 (Nat.zero_le _) (by omega) (by rw [Nat.sub_zero]; exact p)
  rw [List.take_zero, List.nil_append, Nat.sub_zero, Nat.add_zero] at hpt
  obtain ⟨g1, g2, g3⟩ := hpt
  have hll : (cellsW (wdsN U lu) ++ us.drop lu).length = lu + 1 := by rw [List.length_append, cellsW_length, wdsN_length, List.length_drop]; omega
  have gs := g1.set (i := lu) (by omega) (.int .u64 (c : Int))
  have es : (cellsW (wdsN U lu) ++ us.drop lu).set lu (.int .u64 (c : Int)) = cellsW (wdsN U (lu + 1)) := by
    obtain ⟨t, ht⟩ : ∃ t, us.drop lu = [t] := List.length_eq_one_iff.1 (by rw [List.length_drop]; omega)
    rw [ht, List.set_append_right _ _ (by rw [cellsW_length, wdsN_length]; exact Nat.le_refl _), cellsW_length, wdsN_length, Nat.sub_self, wdsN_succ, ← cellsW_append, hc]
    rfl
  rw [es] at gs
  have hfr : FrB (sBlk u) (sOff u) (sOff u + lu + 1) w1 (w2.setCell ⟨sBlk u, sOff u + lu, none⟩ (.int .u64 (c : Int))) := (g3.mono (Nat.le_refl _) (Nat.le_succ _)).set (by omega) (by omega) _
  refine ⟨⟨g1.frozen hcap _, _, g1.cell (List.getElem?_eq_getElem (by rw [hll]; omega))⟩, gs, h.ov.frbx hfr (fun he => absurd he.symm huv), h.st.frb hfr (u2.rowOf hcap), h.below.trans (bset g2 (g1.lt hcap).1), fun k hk a b => ?_⟩
  exact (hfr.only k (Nat.lt_of_lt_of_le hk h.below.size) a).trans (h.fr k hk b)
theorem StO.only {w w' : World} {B s L b : Nat} {o : Option (Nat × Value)} (h : StO w B s L o) (ho : Only b w w') (hn : ¬ SBk s o b) : StO w' B s L o := by
  match o, h with
  | none, ⟨h0, h1, h2⟩ => exact ⟨h0, (ho s (get_lt h1) (fun he => hn (.inl he.symm))).trans h1, h2⟩
  | some qv, ⟨h0, h1, h2, h3, xs, h4, h5⟩ =>
    exact ⟨h0, h1, (ho s (get_lt h2) (fun he => hn (.inl he.symm))).trans h2, (ho qv.1 (get_lt h3) (fun he => hn (.inr ⟨qv, rfl, .inl he.symm⟩))).trans h3, xs,
      h4.same fun hc => ho _ (h4.lt hc).2 (fun he => hn (.inr ⟨qv, rfl, .inr ⟨hc, he.symm⟩⟩)), h5⟩
structure DlQ (z z2 q r : Value) (N D B s L L2 : Nat) (o o2 : Option (Nat × Value)) (w w' : World) : Prop where
  oq : Own w' B 116 q (cellsW (wds (N / D)))
  or_ : Own w' B 116 r (cellsW (wds (N % D)))
  atq : 0 < sCap q → (0 < sCap z ∧ sBlk q = sBlk z) ∨ w.heap.size ≤ sBlk q
  atr : 0 < sCap r → (0 < sCap z2 ∧ sBlk r = sBlk z2) ∨ w.heap.size ≤ sBlk r
  ne : 0 < sCap q → 0 < sCap r → sBlk q ≠ sBlk r
  st : StO w' B s L2 o2
  le : L ≤ L2
  sb : ∀ k, SBk s o2 k → SBk s o k ∨ w.heap.size ≤ k
  nsq : 0 < sCap q → ¬ SBk s o2 (sBlk q)
  nsr : 0 < sCap r → ¬ SBk s o2 (sBlk r)
  below : Below B w w'
  fr : ∀ k, k < w.heap.size → ¬ SBk s o k → (0 < sCap z → k ≠ sBlk z) → (0 < sCap z2 → k ≠ sBlk z2) → w'.heap[k]? = w.heap[k]?
theorem SBk.less {s q0 k L : Nat} {v0 : Value} (hS : IsS v0) (h : SBk s (some (q0, subS v0 0 L)) k) : SBk s (some (q0, v0)) k := by
  rcases h with rfl | ⟨qv, hqv, hk⟩
  · exact .inl rfl
  · cases hqv
    refine .inr ⟨_, rfl, ?_⟩
    rcases hk with hk | ⟨hk1, hk2⟩
    · exact .inl hk
    · simp only at hk1 hk2
      rw [subS_blk hS] at hk2
      rw [subS_cap hS] at hk1
      exact .inr ⟨Nat.lt_of_lt_of_le hk1 (Nat.sub_le _ _), hk2⟩
theorem DlQ.fin1 {z z2 q r : Value} {N D B s L L2 q0 : Nat} {v0 : Value} {o : Option (Nat × Value)} {w w' : World} (h : DlQ z z2 q r N D B s L L2 o (some (q0, v0)) w w') :
    w'.heap[s]? = some (.cells #[.pointer (some ⟨q0, 0, none⟩)] 182 (0, 0)) ∧ w'.heap[q0]? = some (.cells #[v0] 204 (0, 0)) ∧ IsS v0 ∧ L ≤ sCap v0 ∧
    DlP z z2 q r N D B s L o (some (q0, subS v0 0 L)) w (w'.setCell ⟨q0, 0, none⟩ (subS v0 0 L)) := by
  obtain ⟨t0, t1, t2, t3, xs, t4, t5⟩ := h.st
  simp only at t1 t2 t3 t4
  have hle := h.le
  have hS := t4.isS
  have hLc : L ≤ sCap v0 := by have := hS.le; have := t4.len; omega
  have hsub := t4.sub (l := 0) (n := L) (Nat.zero_le _) (by omega)
  have hnn : ∀ {x : Value} {xs : List Value}, Own w' B 116 x xs → Own (w'.setCell ⟨q0, 0, none⟩ (subS v0 0 L)) B 116 x xs := fun h => h.away t3 (by decide) 0 _
  have hq0S : SBk s o q0 ∨ w.heap.size ≤ q0 := h.sb q0 (.inr ⟨_, rfl, .inl rfl⟩)
  refine ⟨t2, t3, hS, hLc, hnn h.oq, hnn h.or_, h.atq, h.atr, h.ne, ⟨t0, t1, ?_, rowset (i := 0) _ t3, _, hnn hsub, ?_⟩, fun k hk => h.sb k (hk.less hS), fun hc hk => h.nsq hc (hk.less hS), fun hc hk => h.nsr hc (hk.less hS), bset h.below t1, ?_⟩
  · have hne : s ≠ q0 := fun he => by
      rw [he, t3] at t2
      have h7 := Option.some.inj t2
      injection h7 with _ h8
      exact absurd h8 (by decide)
    rw [heap_setCell_other _ _ _ _ (by simpa using hne)]; exact t2
  · rw [List.length_drop, List.length_take]; omega
  · intro k1 hk1 h1 h2 h3
    rw [heap_setCell_other _ _ _ _ (by
      simp only
      intro he
      rcases hq0S with h4 | h4
      · exact h1 (he ▸ h4)
      · omega)]
    exact h.fr k1 hk1 h1 h2 h3
theorem DlQ.fin0 {z z2 q r : Value} {N D B s L L2 : Nat} {o : Option (Nat × Value)} {w w' : World} (h : DlQ z z2 q r N D B s L L2 o none w w') :
    w'.heap[s]? = some (.cells #[.pointer none] 182 (0, 0)) ∧ DlP z z2 q r N D B s L o none w w' := by
  obtain ⟨t0, t1, t2⟩ := h.st
  have hle := h.le
  exact ⟨t1, h.oq, h.or_, h.atq, h.atr, h.ne, ⟨t0, t1, by omega⟩, h.sb, h.nsq, h.nsr, h.below, h.fr⟩
set_option maxRecDepth 100000 in
set_option maxHeartbeats 6400000 in
theorem divLarge_any (z z2 x y : Value) (zs z2s : List Value) (N D B s L : Nat) (o : Option (Nat × Value)) (w : World)
    (hz : Own w B 116 z zs) (hz2 : Own w B 116 z2 z2s) (hx : RO w x (wds N)) (hy : RO w y (wds D)) (hn2 : 2 ≤ nw D) (hn40 : nw D < 40) (hnl : nw D ≤ nw N) (hlu : nw N ≤ 90000)
    (hst : StO w B s L o) (hL : L ≤ 90000) (hzS : 0 < sCap z → ¬ SBk s o (sBlk z)) (hz2S : 0 < sCap z2 → ¬ SBk s o (sBlk z2)) (hxS : ¬ SBk s o (sBlk x)) (hyS : ¬ SBk s o (sBlk y))
    (hzz : 0 < sCap z → 0 < sCap z2 → sBlk z ≠ sBlk z2) (hxz : Al z2 x) (hyz : 0 < sCap z2 → sBlk y ≠ sBlk z2) (hB : B ≤ w.heap.size) (hT : DivW w) (hg : 4 < B) :
    Calls Tryz.prog 199 #[z, .pointer (some ⟨s, 0, none⟩), z2, x, y] w fun e w' => ∃ q r, e = .returned (.tuple #[q, r]) ∧ ∃ o', DlP z z2 q r N D B s L o o' w w' := by
  have hSz := hz.isS
  have hSz2 := hz2.isS
  have hSx := hx.rw.isS
  have hSy := hy.rw.isS
  obtain ⟨lu, hlue⟩ : ∃ l, l = nw N := ⟨_, rfl⟩
  obtain ⟨n, hne⟩ : ∃ n, n = nw D := ⟨_, rfl⟩
  have hLx : sLen x = lu := by rw [hx.rw.len, wds_length, hlue]
  have hLy : sLen y = n := by rw [hy.rw.len, wds_length, hne]
  rw [← hne] at hn2 hn40 hnl
  rw [← hlue] at hnl hlu
  have hD0 : 0 < D := by rcases Nat.eq_zero_or_pos D with h | h; (rw [h, nw_zero] at hne; omega); exact h
  obtain ⟨m, hme⟩ : ∃ m, lu = n + m := ⟨lu - n, by omega⟩
  obtain ⟨k1, hk1⟩ : ∃ k, n = k + 1 := ⟨n - 1, by omega⟩
  obtain ⟨x0, hx0⟩ : ∃ x, x = wdg D k1 := ⟨_, rfl⟩
  obtain ⟨sh, hsh⟩ : ∃ s, s = 64 - bl x0 := ⟨_, rfl⟩
  obtain ⟨i1, i2, i3⟩ := dl_shift (s := sh) hD0 hne (by rw [hsh, hx0, hk1]; rfl)
  rw [show n - 1 = k1 by omega] at i3
  have hNl : N < 18446744073709551616 ^ lu := by rw [hlue]; exact lt_nw N
  obtain ⟨j1, j2⟩ := dl_top (s := sh) hNl i1
  have cy : w.cell? ⟨sBlk y, sOff y + k1, none⟩ = some (.int .u64 (x0 : Int)) := by
    have := hy.rw.cell k1 (by rw [wds_length]; omega)
    rw [wds_getD, ← hx0] at this
    exact this
  have hx0l : x0 < 18446744073709551616 := by rw [hx0]; exact wdg_lt _ _
  have e1 : (lu : Int) - (n : Int) = (m : Int) := by omega
  have e2 : (n : Int) - 1 = (k1 : Int) := by omega
  have HSV := Lib.hid (save_any s B L o w hst)
  have HNL := Lib.hid (nlz_any x0 w hx0l)
  rw [← hsh] at HNL
  have HNT := Lib.hid (nat_any s n B L o w hst hB (by omega) (by omega) (by omega))
  have hk1n : k1 < n := by omega
  have HZ := Lib.hid hz
  have HZ2 := Lib.hid hz2
  have HX := Lib.hid hx
  have HY := Lib.hid hy
  have HLU := Lib.hid hlue
  have HNE := Lib.hid hne
  have HME := Lib.hid hme
  have HK1 := Lib.hid hk1
  have HD0 := Lib.hid hD0
  have HI2 := Lib.hid i2
  have HI3 := Lib.hid i3
  have HNLT := Lib.hid hNl
  have HJ1 := Lib.hid j1
  have HJ2 := Lib.hid j2
  have HST := Lib.hid hst
  have HZS := Lib.hid hzS
  have HZ2S := Lib.hid hz2S
  have HXS := Lib.hid hxS
  have HYS := Lib.hid hyS
  have HZZ := Lib.hid hzz
  have HXZ := Lib.hid hxz
  have HYZ := Lib.hid hyz
  have HBB := Lib.hid hB
  have HTT := Lib.hid hT
  have HGB := Lib.hid hg
  have hmlu : m ≤ lu := by omega
  clear hz hz2 hx hy hlue hne hme hk1 hD0 hx0 hsh i2 i3 hNl j1 j2 hst hzS hz2S hxS hyS hzz hxz hyz hB hT hg
  go_enter_defers Tryz.func199, Tryz.ntmps199
  go_wp2_with fail
  refine HSV.out.mono ?_
  rintro _ _ ⟨rfl, rfl⟩
  go_wp2_with fail
  refine HNL.out.mono ?_
  rintro _ _ ⟨rfl, rfl⟩
  go_wp2_with fail
  refine HNT.out.mono ?_
  rintro _ w1 ⟨v, o1, L1, rfl, hnt⟩
  obtain ⟨vs, hvl, hov⟩ := hnt.own
  have hSv := hov.isS
  have hLv : sLen v = n := by rw [hov.len, hvl]
  obtain ⟨lu1, hlu1⟩ : ∃ l, l = lu + 1 := ⟨_, rfl⟩
  have e3 : (lu : Int) + 1 = (lu1 : Int) := by omega
  have hz21 := (hnt.live z2 _ HZ2.out (Cl.of HZ2S.out)).1
  have HMK := Lib.hid (make_any z2 z2s lu1 B w1 hz21 (by omega) (Nat.le_trans HBB.out hnt.below.size))
  have HNT1 := Lib.hid hnt
  have HOV := Lib.hid hov
  have HVL := Lib.hid hvl
  have HLU1 := Lib.hid hlu1
  clear hnt hov hvl hz21 hlu1
  go_wp2_with fail
  refine HMK.out.mono ?_
  rintro _ w2 ⟨u, rfl, hmk⟩
  obtain ⟨us, hul, hou⟩ := hmk.own
  have hSu := hou.isS
  have hLu : sLen u = lu1 := by rw [hou.len, hul]
  have hlu1 := HLU1.out
  have hcu : 0 < sCap u := by have := hSu.le; omega
  have hcv : 0 < sCap v := by have := hSv.le; omega
  have hnt := HNT1.out
  have hws := hnt.below.size
  have hatv : SBk s o (sBlk v) ∨ w.heap.size ≤ sBlk v := by
    rcases hnt.at' hcv with h1 | h1
    · exact hnt.sb _ h1
    · exact .inr h1
  have hvlt := (HOV.out.lt hcv).2
  have hatu := hmk.at_ hSz2 hcu
  have hnsu : ¬ SBk s o1 (sBlk u) := fun hk => by
    rcases hatu with ⟨h1, h2⟩ | h1
    · rw [h2] at hk
      rcases hnt.sb _ hk with h3 | h3
      · exact HZ2S.out h1 h3
      · have := (HZ2.out.lt h1).2; omega
    · have := (hnt.st.base hk).2; omega
  have huv : sBlk u ≠ sBlk v := fun he => by
    rcases hnt.at' hcv with h1 | h1
    · exact hnsu (he ▸ h1)
    · rcases hatu with ⟨h2, h3⟩ | h2
      · have := (HZ2.out.lt h2).2; omega
      · omega
  have hxl : sBlk x < w.heap.size := HX.out.rw.ri.lt (by rw [ints_length, wds_length, ← HLU.out]; omega)
  have hyl : sBlk y < w.heap.size := HY.out.rw.ri.lt (by rw [ints_length, wds_length, ← HNE.out]; omega)
  have hxv : sBlk x ≠ sBlk v := fun he => by
    rcases hatv with h1 | h1
    · exact HXS.out (he ▸ h1)
    · omega
  have hyv : sBlk y ≠ sBlk v := fun he => by
    rcases hatv with h1 | h1
    · exact HYS.out (he ▸ h1)
    · omega
  have hxu : sBlk x = sBlk u → sOff x ≤ sOff u := fun he => by
    rcases hmk.how with ⟨-, h2, h3⟩ | ⟨h2, -, -⟩
    · rw [h2, (sub0 hSz2).1] at he
      have := HXZ.out (by omega) he
      rw [h2, (sub0 hSz2).2]
      omega
    · omega
  have hb2 := hmk.below
  have hl0 : Lg0 u v x y N D lu n B s L1 o1 w2 := ⟨⟨us, by omega, hou⟩, ⟨vs, HVL.out, HOV.out.below hb2⟩,
    (HX.out.same fun _ => hnt.frame _ hxl HXS.out).below hb2, (HY.out.same fun _ => hnt.frame _ hyl HYS.out).below hb2, hnt.st.below hb2, huv, hxv, hxu, hyv⟩
  have HL0 := Lib.hid hl0
  have HNSU := Lib.hid hnsu
  have HUV := Lib.hid huv
  have HATU := Lib.hid hatu
  have HATV := Lib.hid hatv
  have HMK2 := Lib.hid hmk
  have hluc : lu ≤ sCap u := by have := hSu.le; omega
  have hS0 : IsS (subS u 0 lu) := subS_isS hSu (Nat.zero_le _) hluc
  have hlul : lu < sLen u := by omega
  clear hou hul hlu1 hnt hatv hatu hnsu huv hxl hyl hxv hyv hxu hb2 hl0 hmk
  go_upto_if 40 with fail
  go_cut [] from 39 to 68 (fun wx => LgP u v (N * 2 ^ sh) (D * 2 ^ sh) lu n B s L1 o1 w2 wx)
  case first =>
    by_cases hs0 : sh = 0
    · have t1 : ((sh : Int) == 0) = true := by rw [beq_iff_eq]; omega
      obtain ⟨vs, v1, v2⟩ := HL0.out.ov
      have hd3 : ∀ j t, (cellsW (wds D))[j]? = some t → w2.cell? ⟨sBlk y, sOff y + j, none⟩ = some t := HL0.out.ry.rw.at
      have HD3 := Lib.hid hd3
      have HLV := Lib.hid v2
      have HV1 := Lib.hid v1
      have HS0 := Lib.hid hs0
      have hn0 : 0 < n := by omega
      have h20 : (2 : Nat) ^ sh = 1 := by rw [hs0, Nat.pow_zero]
      have H20 := Lib.hid h20
      clear hs0 hd3 v1 v2 h20
      go_wp2_with (refine wpList_copy_W (o := ⟨some 43, _, _, _, _, _⟩) rfl (.tmp 41) (.tmp 42) 108 108 rfl 116 Tryz.underlying108 sizeW v y rfl rfl B vs HLV.out (cellsW (wds D)) ?d1 hSy ?d2 HD3.out (cellsW_one _) ?_)
      case d1 => rw [cellsW_length, wds_length, HV1.out, ← HNE.out]
      case d2 => rw [cellsW_length, wds_length, ← HNE.out]; exact hLy
      intro w3 o3 b3 f3 _
      have hvp : VvP v n B (D * 2 ^ sh) w2 w3 := by
        rw [H20.out, Nat.mul_one]
        rw [HV1.out] at f3
        refine ⟨?_, b3, f3⟩
        rw [HNE.out, wdsN_nw]; exact o3
      have h1 := HL0.out.laidV hn0 hvp
      obtain ⟨us, u1, u2⟩ := h1.ou
      have HU2 := Lib.hid (u2.sub (l := 0) (n := lu) (Nat.zero_le _) (by omega))
      have hul2 : ((us.take lu).drop 0).length = lu := by rw [List.length_drop, List.length_take]; omega
      have HUL := Lib.hid hul2
      have HMIN := Lib.hid (show min lu us.length = lu by omega)
      have hd4 : ∀ j t, (cellsW (wds N))[j]? = some t → w3.cell? ⟨sBlk x, sOff x + j, none⟩ = some t := h1.rx.rw.at
      have HD4 := Lib.hid hd4
      have H1 := Lib.hid h1
      have hL0' : sLen (subS u 0 lu) = lu := by rw [subS_len hSu]; omega
      clear o3 b3 f3 hvp h1 u1 u2 hul2 hd4
      go_wp2_with (refine wpList_copy_W (o := ⟨some 49, _, _, _, _, _⟩) rfl (.tmp 47) (.tmp 48) 108 108 rfl 116 Tryz.underlying108 sizeW (subS u 0 lu) x rfl rfl B _ HU2.out (cellsW (wds N)) ?d5 hSx ?d6 HD4.out (cellsW_one _) ?_)
      case d5 => rw [cellsW_length, wds_length, HUL.out, ← HLU.out]
      case d6 => rw [cellsW_length, wds_length, ← HLU.out]; exact hLx
      intro w4 o4 b4 f4 _
      have hvp : VvP (subS u 0 lu) lu B (N * 2 ^ sh) w3 w4 := by
        rw [H20.out, Nat.mul_one]
        first | rw [HMIN.out] at f4 | rw [HUL.out] at f4
        refine ⟨?_, b4, f4⟩
        rw [HLU.out, wdsN_nw]
        have := o4
        rw [HLU.out] at this
        exact this
      have hc0 : 0 = wdg (N * 2 ^ sh) lu := by rw [H20.out, Nat.mul_one, wdg_small HNLT.out (Nat.le_refl _)]
      obtain ⟨⟨fz, t, ct⟩, hlg⟩ := H1.out.laidU HUV.out hvp hc0 (by omega)
      have hlg : LgP u v (N * 2 ^ sh) (D * 2 ^ sh) lu n B s L1 o1 w2 (w4.setCell ⟨sBlk u, sOff u + lu, none⟩ (.int .u64 0)) := hlg
      have HLG := Lib.hid hlg
      clear o4 b4 f4 hvp hc0 hlg
      go_wp2_with fail
      go_meet
      exact HLG.out
    · have t1 : ((sh : Int) == 0) = false := by rw [beq_eq_false_iff_ne]; omega
      obtain ⟨us, u1, u2⟩ := HL0.out.ou
      obtain ⟨vs, v1, v2⟩ := HL0.out.ov
      have HC1 : Hid (Calls Tryz.prog 173 #[v, y, .int .u64 sh] w2 fun e w' => ∃ c : Nat, e = .returned (.int .u64 c) ∧ VvP v n B (D * 2 ^ sh) w2 w') := Lib.hid (by
        have := lshVU_gen v y vs (wds D) D sh B w2 v2 HL0.out.ry.rw (wv_wds D) (by rw [v1, wds_length, HNE.out]) (fun he => absurd he HL0.out.yv) (by rw [wds_length, ← HNE.out]; omega) (by rw [wds_length, ← HNE.out]; omega) (by omega) i1
        rw [wds_length, ← HNE.out] at this
        exact this.mono fun e w' h => ⟨_, h.1, h.2⟩)
      have HC2 : Hid (∀ w3, Lg1 u v x N (D * 2 ^ sh) lu n B s L1 o1 w2 w3 → Calls Tryz.prog 173 #[subS u 0 lu, x, .int .u64 sh] w3 fun e w' => ∃ c : Nat, e = .returned (.int .u64 c) ∧ c = wdg (N * 2 ^ sh) lu ∧ VvP (subS u 0 lu) lu B (N * 2 ^ sh) w3 w') := Lib.hid (fun w3 h3 => by
        obtain ⟨us', u1', u2'⟩ := h3.ou
        have hsub := u2'.sub (l := 0) (n := lu) (Nat.zero_le _) (by omega)
        have := lshVU_gen (subS u 0 lu) x _ (wds N) N sh B w3 hsub h3.rx.rw (wv_wds N) (by rw [List.length_drop, List.length_take, wds_length, ← HLU.out]; omega) (by rw [(sub0 hSu).1, (sub0 hSu).2]; exact HL0.out.xu) (by rw [wds_length, ← HLU.out]; omega) (by rw [wds_length, ← HLU.out]; omega) (by omega) i1
        rw [wds_length, ← HLU.out] at this
        refine this.mono fun e w' h => ⟨_, h.1, ?_, h.2⟩
        have h4 := top_carry (X := N) (L := lu - 1) (t := sh) (by rw [show lu - 1 + 1 = lu by omega]; exact HNLT.out) (by omega) i1
        rw [h4, show lu - 1 + 1 = lu by omega]
        exact wtop HJ1.out)
      have hn0 : 0 < n := by omega
      clear u1 u2 v1 v2 hs0
      go_wp2_with fail
      refine HC1.out.mono ?_
      rintro _ w3 ⟨c1, rfl, hvp⟩
      have h1 := HL0.out.laidV hn0 hvp
      have H1 := Lib.hid h1
      have HC := Lib.hid (HC2.out w3 h1)
      clear hvp h1
      go_wp2_with fail
      refine HC.out.mono ?_
      rintro _ w4 ⟨c2, rfl, hc2, hvp⟩
      obtain ⟨⟨fz, t, ct⟩, hlg⟩ := H1.out.laidU HUV.out hvp hc2 (by omega)
      have HLG := Lib.hid hlg
      clear hvp hlg hc2
      go_wp2_with fail
      go_meet
      exact HLG.out
  case rest =>
    have hlg := hcut
    have HLG := Lib.hid hlg
    have hz2' : Own w1 B 116 z zs := (HNT1.out.live z _ HZ.out (Cl.of HZS.out)).1
    have hnzu : 0 < sCap z → sBlk z ≠ sBlk u := fun hc he => by
      rcases HATU.out with ⟨h1, h2⟩ | h1
      · exact HZZ.out hc h1 (he.trans h2)
      · have := (HZ.out.lt hc).2
        omega
    have hnzv : 0 < sCap z → sBlk z ≠ sBlk v := fun hc he => by
      rcases HATV.out with h1 | h1
      · exact HZS.out hc (he ▸ h1)
      · have := (HZ.out.lt hc).2; omega
    have hzw : Own wc B 116 z zs := (hz2'.below HMK2.out.below).same fun hc => hlg.fr _ (by
      have h1 := (hz2'.lt hc).2
      have h2 := HMK2.out.below.size
      omega) (hnzu hc) (hnzv hc)
    have HAL := Lib.hid (alias_ne z u zs _ B wc hzw hlg.ou (fun h1 _ => hnzu h1))
    obtain ⟨m1, hm1⟩ : ∃ x, x = m + 1 := ⟨_, rfl⟩
    have e4 : (m : Int) + 1 = (m1 : Int) := by omega
    have HMQ := Lib.hid (fun a => make_any z zs m1 B (wc.drewN a) (hzw.drewN a) (by omega) (by have h1 := hlg.below.size; have h2 := HMK2.out.below.size; have h3 := HBB.out; simp; omega))
    have HZW := Lib.hid hzw
    have HNZU := Lib.hid hnzu
    have HNZV := Lib.hid hnzv
    have HM1 := Lib.hid hm1
    clear hcut hlg hz2' hnzu hnzv hzw hm1
    go_wp2_with fail
    refine HAL.out.mono ?_
    rintro _ _ ⟨rfl, a, rfl⟩
    go_wp2_with fail
    refine (HMQ.out a).mono ?_
    rintro _ w5 ⟨q, rfl, hmq⟩
    obtain ⟨qs, hql, hoq⟩ := hmq.own
    have hSq := hoq.isS
    have hm1 := HM1.out
    have hcq : 0 < sCap q := by have := hSq.le; have := hoq.len; omega
    have hnt := HNT1.out
    have hlg := HLG.out
    have hb5 : Below wc.heap.size wc w5 := undrewN hmq.below
    have hsz1 := hnt.below.size
    have hsz2 := HMK2.out.below.size
    have hsz3 := hlg.below.size
    have hatq := hmq.at_ hSz hcq
    have hsbo : ∀ k, SBk s o1 k → k < w1.heap.size := fun k hk => (hnt.st.base hk).2
    have hnsq : ¬ SBk s o1 (sBlk q) := fun hk => by
      rcases hatq with ⟨h1, h2⟩ | h1
      · rw [h2] at hk
        rcases hnt.sb _ hk with h3 | h3
        · exact HZS.out h1 h3
        · have := (HZ.out.lt h1).2; omega
      · have := hsbo _ hk
        simp at h1
        omega
    have hblk : ∀ t, t < wc.heap.size → (0 < sCap z → sBlk z ≠ t) → t ≠ sBlk q := fun t ht hz he => by
      rcases hatq with ⟨h1, h2⟩ | h1
      · exact hz h1 (h2.symm.trans he.symm)
      · simp at h1; omega
    have huq : sBlk u ≠ sBlk q := hblk _ (hlg.ou.lt hcu).2 HNZU.out
    have hvq : sBlk v ≠ sBlk q := hblk _ (hlg.ov.lt hcv).2 HNZV.out
    obtain ⟨k, hk⟩ : ∃ k, n = k + 2 := ⟨n - 2, by omega⟩
    have hk1e := HK1.out
    have hme := HME.out
    have hB5 : B ≤ w5.heap.size := by have h1 := hb5.size; have h2 := HBB.out; omega
    have hDB := divBasic_any q u v qs (N * 2 ^ sh) (D * 2 ^ sh) m1 k B s L1 o1 w5 hoq hql
      (by rw [show m1 + (k + 2) = lu + 1 by omega]; exact hlg.ou.below hb5) (by rw [show m1 + (k + 2) = lu + 1 by omega]; exact HJ1.out)
      (by rw [← hk]; exact hlg.ov.below hb5) (by rw [← hk]; exact HI2.out) (hlg.st.below hb5) hnt.cl (Cl.of fun _ => HNSU.out) (Cl.of fun _ => hnsq)
      (fun _ => huq) (fun he => HUV.out he.symm) (fun _ => hvq) HNSU.out (fun _ => hnsq) (by rw [show k + 1 = k1 by omega]; exact HI3.out)
      (by rw [show m1 + (k + 1) = lu by omega, show k + 1 = k1 by omega]; exact Nat.lt_of_lt_of_le HJ2.out HI3.out) (by omega) (by omega) (by omega) (by have := hnt.le.2; omega) hB5
    rw [show m1 + (k + 2) = lu1 by have := HLU1.out; omega] at hDB
    have HDB := Lib.hid hDB
    have hbAll : Below B w w5 := (((hnt.below.trans (HMK2.out.below.mono (Nat.le_trans HBB.out hsz1))).trans hlg.below).trans (hb5.mono (by have := HBB.out; omega)))
    have cg : w5.cell? ⟨4, 0, none⟩ = some (.int .i64 40) := HTT.out.belowB hbAll HGB.out
    have t40 : decide ((n : Int) < 40) = true := decide_eq_true (by omega)
    have t40' : decide (n < 40) = true := decide_eq_true hn40
    have hLq : sLen q = m1 := by rw [hoq.len, hql]
    have HATQ := Lib.hid hatq
    have HNSQ := Lib.hid hnsq
    have HUQ := Lib.hid huq
    have HBALL := Lib.hid hbAll
    have HB5 := Lib.hid hb5
    have HMQ5 := Lib.hid hmq
    clear hmq hoq hql hm1 hnt hlg hb5 hatq hsbo hnsq hblk huq hvq hk hk1e hme hDB hbAll
    go_wp2_with fail
    refine HDB.out.mono ?_
    rintro _ w6 ⟨rfl, o2, hdv⟩
    obtain ⟨dq, dr⟩ := dl_div N D sh
    have hQl : N / D < 18446744073709551616 ^ m1 := by
      refine Nat.div_lt_of_lt_mul ?_
      have h1 := nw_ge HD0.out
      rw [← HNE.out] at h1
      have h2 : 18446744073709551616 ^ lu = 18446744073709551616 ^ (n - 1) * 18446744073709551616 ^ m1 := by
        rw [← Nat.pow_add]; congr 1; have := HME.out; have := HM1.out; omega
      exact Nat.lt_of_lt_of_le HNLT.out (by rw [h2]; exact Nat.mul_le_mul_right _ h1)
    have hVl : D * 2 ^ sh ≤ 18446744073709551616 ^ lu1 := Nat.le_trans (Nat.le_of_lt HI2.out) (Nat.pow_le_pow_right (by decide) (by have := HLU1.out; omega))
    have hRl : N * 2 ^ sh % (D * 2 ^ sh) < 18446744073709551616 ^ lu1 := Nat.lt_of_lt_of_le (Nat.mod_lt _ (Nat.mul_pos HD0.out (Nat.two_pow_pos sh))) hVl
    have hMl : N % D < 18446744073709551616 ^ lu1 := by rw [← dr]; exact Nat.lt_of_le_of_lt (Nat.div_le_self _ _) hRl
    have hdq := hdv.oq
    rw [dq] at hdq
    have hnu2 : ¬ SBk s o2 (sBlk u) := fun hk => by
      rcases hdv.sb _ hk with h1 | h1
      · exact HNSU.out h1
      · have := (HLG.out.ou.lt hcu).2; have := HB5.out.size; omega
    have HNQ := Lib.hid (norm_any q _ w6 (hdq.rw' wdsN_lt) (by rw [wdsN_length]; have := HM1.out; omega))
    rw [wv_wdsN_lt hQl] at HNQ
    have hSq2 : IsS (subS q 0 (nw (N / D))) := subS_isS hSq (Nat.zero_le _) (by have := nw_le hQl; have := hSq.le; omega)
    obtain ⟨qq, hqq⟩ : ∃ x, x = subS q 0 (nw (N / D)) := ⟨_, rfl⟩
    rw [← hqq] at HNQ hSq2
    have HQQ := Lib.hid hqq
    have HDQ := Lib.hid hdq
    have HDV := Lib.hid hdv
    have HNU2 := Lib.hid hnu2
    have HQL := Lib.hid hQl
    have HRL := Lib.hid hRl
    have HML := Lib.hid hMl
    have HDR := Lib.hid dr
    clear hdv dq dr hQl hVl hRl hMl hdq hnu2 hqq cg
    go_wp2_with fail
    refine HNQ.out.mono ?_
    rintro _ _ ⟨rfl, rfl⟩
    go_upto_if 92 with fail
    go_cut [] from 91 to 96 (fun wx => Own wx B 116 u (cellsW (wdsN (N % D) lu1)) ∧ Own wx B 116 q (cellsW (wdsN (N / D) m1)) ∧ StO wx B s L1 o2 ∧ Below B w6 wx ∧ Only (sBlk u) w6 wx)
    case first =>
      by_cases hs0 : sh = 0
      · have t1 : ((sh : Int) != 0) = false := by simp [hs0]
        have HF : Hid (Own w6 B 116 u (cellsW (wdsN (N % D) lu1)) ∧ Own w6 B 116 q (cellsW (wdsN (N / D) m1)) ∧ StO w6 B s L1 o2 ∧ Below B w6 w6 ∧ Only (sBlk u) w6 w6) := Lib.hid (by
          refine ⟨?_, HDQ.out, HDV.out.st, Below.refl _ _, Only.refl _ _⟩
          have h1 := HDV.out.ou
          have h2 := HDR.out
          rw [hs0, Nat.pow_zero, Nat.div_one] at h2
          rw [hs0, Nat.pow_zero, h2] at h1
          exact h1)
        clear hs0
        go_wp2_with fail
        go_meet
        exact HF.out
      · have t1 : ((sh : Int) != 0) = true := by rw [bne_iff_ne]; omega
        have HC : Hid (Calls Tryz.prog 155 #[u, u, .int .u64 sh] w6 fun e w' => ∃ c : Nat, e = .returned (.int .u64 c) ∧ (Own w' B 116 u (cellsW (wdsN (N % D) lu1)) ∧ Own w' B 116 q (cellsW (wdsN (N / D) m1)) ∧ StO w' B s L1 o2 ∧ Below B w6 w' ∧ Only (sBlk u) w6 w')) := Lib.hid (by
          have h1 := HDV.out.ou
          have h2 := rshVU_any u u _ _ (N * 2 ^ sh % (D * 2 ^ sh)) sh B w6 h1 wdsN_lt (h1.rw' wdsN_lt) (wv_wdsN_lt HRL.out) rfl (fun _ => Nat.le_refl _) (by rw [wdsN_length]; have := HLU1.out; omega) (by rw [wdsN_length]; have := HLU1.out; omega) (by omega) i1
          rw [wdsN_length, HDR.out] at h2
          refine h2.mono ?_
          rintro _ w' ⟨c, rfl, g1, g2, g3⟩
          refine ⟨c, rfl, g1, HDQ.out.same fun hc => g3 _ (HDQ.out.lt hc).2 (fun he => HUQ.out he.symm), HDV.out.st.only g3 HNU2.out, g2, g3⟩)
        clear hs0
        go_wp2_with fail
        refine HC.out.mono ?_
        rintro _ w7 ⟨c, rfl, h7⟩
        have H7 := Lib.hid h7
        clear h7
        go_wp2_with fail
        go_meet
        exact H7.out
    case rest =>
      obtain ⟨f1, f2, f3, f4, f5⟩ := hcut
      have HNR := Lib.hid (norm_any u _ wc (f1.rw' wdsN_lt) (by rw [wdsN_length]; have := HLU1.out; omega))
      rw [wv_wdsN_lt HML.out] at HNR
      have hSr2 : IsS (subS u 0 (nw (N % D))) := subS_isS hSu (Nat.zero_le _) (by have h1 := nw_le HML.out; have h2 := hSu.le; omega)
      have HQ : Hid (DlQ z z2 qq (subS u 0 (nw (N % D))) N D B s L L1 o o2 w wc) := Lib.hid (by
        have hnt := HNT1.out
        have hlg := HLG.out
        have hdv := HDV.out
        have hq5 := HB5.out.size
        have hsz1 := hnt.below.size
        have hsz2 := HMK2.out.below.size
        have hsz3 := hlg.below.size
        have hq2 := f2.takeW wdsN_lt
        rw [wv_wdsN_lt HQL.out, ← HQQ.out] at hq2
        have hr2 := f1.takeW wdsN_lt
        rw [wv_wdsN_lt HML.out] at hr2
        have bq : sBlk qq = sBlk q := by rw [HQQ.out]; exact (sub0 hSq).1
        have br : sBlk (subS u 0 (nw (N % D))) = sBlk u := (sub0 hSu).1
        have aq : (0 < sCap z ∧ sBlk q = sBlk z) ∨ w.heap.size ≤ sBlk q := by
          rcases HATQ.out with h1 | h1
          · exact .inl h1
          · refine .inr ?_
            simp at h1
            omega
        have au : (0 < sCap z2 ∧ sBlk u = sBlk z2) ∨ w.heap.size ≤ sBlk u := by
          rcases HATU.out with h1 | h1
          · exact .inl h1
          · exact .inr (by omega)
        have hqlt : sBlk q < w5.heap.size := by
          obtain ⟨qs, -, ho⟩ := HMQ5.out.own
          exact (ho.lt hcq).2
        have hsb1 : ∀ k, SBk s o2 k → SBk s o k ∨ w.heap.size ≤ k := fun k hk => by
          rcases hdv.sb k hk with h1 | h1
          · exact hnt.sb k h1
          · exact .inr (by omega)
        refine ⟨hq2, hr2, fun _ => by rw [bq]; exact aq, fun _ => by rw [br]; exact au, fun _ _ => by rw [bq, br]; exact fun he => HUQ.out he.symm, f3, hnt.le.1, hsb1, fun _ hk => ?_, fun _ hk => by rw [br] at hk; exact HNU2.out hk, (HBALL.out.trans hdv.below).trans f4, fun t ht h1 h2 h3 => ?_⟩
        · rw [bq] at hk
          rcases hdv.sb _ hk with h1 | h1
          · exact HNSQ.out h1
          · omega
        · have hnS1 : ¬ SBk s o1 t := fun hk => by
            rcases hnt.sb t hk with h4 | h4
            · exact h1 h4
            · omega
          have htu : t ≠ sBlk u := fun he => by
            rcases au with ⟨h4, h5⟩ | h4
            · exact h3 h4 (he.trans h5)
            · omega
          have htq : t ≠ sBlk q := fun he => by
            rcases aq with ⟨h4, h5⟩ | h4
            · exact h2 h4 (he.trans h5)
            · omega
          have htv : t ≠ sBlk v := fun he => by
            rcases HATV.out with h4 | h4
            · exact h1 (he ▸ h4)
            · omega
          have e1 := hnt.frame t ht h1
          have e2 := HMK2.out.below.block t (by omega)
          have e3 := hlg.fr t (by omega) htu htv
          have e4 := HB5.out.block t (by omega)
          have e5 := hdv.fr t (by omega) hnS1 htu htq
          have e6 := f5 t (by have := hdv.below.size; omega) htu
          exact e6.trans (e5.trans (e4.trans (e3.trans (e2.trans e1)))))
      obtain ⟨rr, hrr⟩ : ∃ x, x = subS u 0 (nw (N % D)) := ⟨_, rfl⟩
      rw [← hrr] at HNR HQ hSr2
      clear f1 f2 f3 f4 f5 hrr
      match o2, HQ with
      | none, HQ =>
        obtain ⟨g1, g2⟩ := HQ.out.fin0
        have HR := Lib.hid (restore_none s L .returning wc g1)
        have Q := Lib.hid g2
        clear g1 g2 HQ HDB
        go_wp2_with fail
        refine HNR.out.mono ?_
        rintro _ _ ⟨rfl, rfl⟩
        go_wp2
        refine leaves_cons (f := 180) (args := #[.pointer (some ⟨s, 0, none⟩), .int .i64 (L : Int)]) (by simp) (by simp [go_sem]) ?_
        refine HR.out.mono ?_
        rintro e u' w'' ⟨rfl, rfl, rfl⟩
        simp [Leaves, settle, results, Tryz.results199, go_sem]
        exact ⟨qq, rr, ⟨rfl, rfl⟩, _, Q.out⟩
      | some (q0, v0), HQ =>
        obtain ⟨g1, g2, g3, g4, g5⟩ := HQ.out.fin1
        have HR := Lib.hid (restore_some s q0 L v0 .returning wc g1 g2 g3 g4 (by omega))
        have Q := Lib.hid g5
        clear g1 g2 g4 g5 HQ HDB
        go_wp2_with fail
        refine HNR.out.mono ?_
        rintro _ _ ⟨rfl, rfl⟩
        go_wp2
        refine leaves_cons (f := 180) (args := #[.pointer (some ⟨s, 0, none⟩), .int .i64 (L : Int)]) (by simp) (by simp [go_sem]) ?_
        refine HR.out.mono ?_
        rintro e u' w'' ⟨rfl, rfl, rfl⟩
        simp [Leaves, settle, results, Tryz.results199, go_sem]
        exact ⟨qq, rr, ⟨rfl, rfl⟩, _, Q.out⟩
end Go.Proofs.YtllhnjpnkmjopaaGreatDoor
