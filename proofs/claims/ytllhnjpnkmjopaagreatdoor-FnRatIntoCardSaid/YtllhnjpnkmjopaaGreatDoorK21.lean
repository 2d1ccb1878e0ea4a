/-
Texts of this proof, joined: DlD. No condition.
-/
import Derived.Test.YtllhnjpnkmjopaaGreatDoorK13
import Derived.Test.YtllhnjpnkmjopaaGreatDoorK18
import Derived.Test.YtllhnjpnkmjopaaGreatDoorK20
namespace Go.Proofs.YtllhnjpnkmjopaaGreatDoor
open Go.RowKit

structure NdP (z z2 q r : Value) (N D B : Nat) (w w' : World) : Prop where
  oq : Own w' B 116 q (cellsW (wds (N / D)))
  or_ : Own w' B 116 r (cellsW (wds (N % D)))
  atq : 0 < sCap q → (0 < sCap z ∧ sBlk q = sBlk z) ∨ w.heap.size ≤ sBlk q
  atr : 0 < sCap r → (0 < sCap z2 ∧ sBlk r = sBlk z2) ∨ w.heap.size ≤ sBlk r
  ne : 0 < sCap q → 0 < sCap r → sBlk q ≠ sBlk r
  below : Below B w w'
  fr : ∀ k, k < w.heap.size → (0 < sCap z → k ≠ sBlk z) → (0 < sCap z2 → k ≠ sBlk z2) → w'.heap[k]? = w.heap[k]?
theorem NdP.of {z z2 q r : Value} {zs z2s : List Value} {N D B : Nat} {w w1 w2 : World} (_hz : Own w B 116 z zs) (hz2 : Own w B 116 z2 z2s) (hzz : 0 < sCap z → 0 < sCap z2 → sBlk z ≠ sBlk z2) (h1 : NatR z q (N / D) B w w1) (h2 : NatR z2 r (N % D) B w1 w2) : NdP z z2 q r N D B w w2 := by
  have hs := h1.below.size
  have hat2 : 0 < sCap r → (0 < sCap z2 ∧ sBlk r = sBlk z2) ∨ w1.heap.size ≤ sBlk r := h2.at'
  have hne2 : 0 < sCap q → 0 < sCap z2 → sBlk q ≠ sBlk z2 := fun hq hz2c he => by
    rcases h1.at' hq with ⟨a, b⟩ | a
    · exact hzz a hz2c (b.symm.trans he)
    · have := (hz2.lt hz2c).2; omega
  refine ⟨h1.own.frz h2.fr hne2, h2.own, h1.at', fun hc => ?_, fun hq hr he => ?_, h1.below.trans h2.below, fun k hk a b => (h2.fr k (by omega) b).trans (h1.fr k hk a)⟩
  · rcases hat2 hc with a | a
    · exact .inl a
    · exact .inr (by omega)
  · rcases hat2 hr with ⟨a, b⟩ | a
    · exact hne2 hq a (he.trans b)
    · have := (h1.own.lt hq).2; omega
theorem DlP.nd {z z2 q r : Value} {zs z2s : List Value} {N D B B' s L : Nat} {o o' : Option (Nat × Value)} {w W w' : World} (hz : Own w B 116 z zs) (hz2 : Own w B 116 z2 z2s) (hB : B ≤ w.heap.size) (hW : Below w.heap.size w W) (hs : ∀ k, SBk s o k → w.heap.size ≤ k) (hBB : B' = B) (h : DlP z z2 q r N D B' s L o o' W w') : NdP z z2 q r N D B w w' := by
  subst hBB
  have hsz := hW.size
  refine ⟨h.oq, h.or_, fun hc => ?_, fun hc => ?_, h.ne, (hW.mono hB).trans h.below, fun k hk a b => (h.fr k (by omega) (fun hk2 => by have := hs k hk2; omega) a b).trans (hW.block k hk)⟩
  · rcases h.atq hc with a | a
    · exact .inl a
    · exact .inr (by omega)
  · rcases h.atr hc with a | a
    · exact .inl a
    · exact .inr (by omega)
theorem NdP.set {z z2 q r u : Value} {N D B b i T : Nat} {cs : Array Value} {w w' : World} (h : NdP z z2 q r N D B w w') (hr : w'.heap[b]? = some (.cells cs T (0, 0))) (hT : T ≠ 116) (hb : w.heap.size ≤ b) (hB : B ≤ w.heap.size) : NdP z z2 q r N D B w (w'.setCell ⟨b, i, none⟩ u) :=
  ⟨h.oq.away hr hT i u, h.or_.away hr hT i u, h.atq, h.atr, h.ne, bset h.below (by omega), fun k hk a b' => by rw [heap_setCell_other _ _ _ _ (by simp only; omega)]; exact h.fr k hk a b'⟩
set_option maxRecDepth 100000 in
set_option maxHeartbeats 3200000 in
theorem div_nil (z z2 x y : Value) (zs z2s : List Value) (N D B : Nat) (w : World) (hz : Own w B 116 z zs) (hz2 : Own w B 116 z2 z2s) (hx : RO w x (wds N)) (hy : RO w y (wds D)) (ax : Al z x) (hD : 0 < D) (hn40 : nw D < 40) (hlu : nw N ≤ 90000)
    (hzz : 0 < sCap z → 0 < sCap z2 → sBlk z ≠ sBlk z2) (hxz : 0 < sCap z2 → sBlk x ≠ sBlk z2) (hyz : 0 < sCap z2 → sBlk y ≠ sBlk z2) (hB : B ≤ w.heap.size) (hT : DivW w) (hg : 4 < B) :
    Calls Tryz.prog 165 #[z, .pointer none, z2, x, y] w fun e w' => ∃ q r, e = .returned (.tuple #[q, r]) ∧ NdP z z2 q r N D B w w' := by
  have hSz := hz.isS
  have hSz2 := hz2.isS
  have hSx := hx.rw.isS
  have hSy := hy.rw.isS
  obtain ⟨n, hne⟩ : ∃ n, n = nw D := ⟨_, rfl⟩
  have hLy : sLen y = n := by rw [hy.rw.len, wds_length, hne]
  have hn0 : 0 < n := by rw [hne]; exact nw_pos hD
  have t0 : ((n : Int) == 0) = false := by rw [beq_eq_false_iff_ne]; omega
  by_cases h1 : n = 1
  · have t1 : ((n : Int) == 1) = true := by rw [beq_iff_eq]; omega
    have hDl : D < 18446744073709551616 := by
      have := lt_nw D
      rw [← hne, h1, Nat.pow_one] at this
      exact this
    have cy : w.cell? ⟨sBlk y, sOff y, none⟩ = some (.int .u64 (D : Int)) := by
      have := hy.rw.cell 0 (by rw [wds_length, ← hne]; exact hn0)
      rw [wds_getD, wdg_zero_eq, Nat.mod_eq_of_lt hDl, Nat.add_zero] at this
      exact this
    have HC1 := Lib.hid (divW_gen z x zs N D B w hz hx ax hD hDl (by omega) hB)
    have hml : N % D < 18446744073709551616 := Nat.lt_trans (Nat.mod_lt _ hD) hDl
    have HC2 : Hid (∀ q w1, NatR z q (N / D) B w w1 → Calls Tryz.prog 115 #[z2, .int .u64 ((N % D : Nat) : Int)] w1 fun e w' => ∃ r, e = .returned r ∧ IsS r ∧ NdP z z2 q r N D B w w') := Lib.hid (fun q w1 hq => by
      have h2 : Own w1 B 116 z2 z2s := hz2.frz hq.fr (fun a b he => hzz b a he.symm)
      refine (setWord_gen z2 z2s (N % D) B w1 h2 hml (Nat.le_trans hB hq.below.size)).mono ?_
      rintro _ w' ⟨r, rfl, hr⟩
      exact ⟨r, rfl, hr.own.isS, .of hz hz2 hzz hq hr⟩)
    obtain ⟨R, hR⟩ : ∃ R, R = N % D := ⟨_, rfl⟩
    rw [← hR] at HC1 HC2
    clear hz hz2 hx hy ax hzz hxz hyz hB hT hg hne h1 hml hR hDl
    go_enter_defers Tryz.func165, Tryz.ntmps165
    go_wp2_with fail
    refine HC1.out.mono ?_
    rintro _ w1 ⟨q, rfl, hq⟩
    have hSq := hq.own.isS
    have HC := Lib.hid (HC2.out q w1 hq)
    clear hq
    go_wp2_with fail
    refine HC.out.mono ?_
    rintro _ w2 ⟨r, rfl, hSr, hnd⟩
    have Q := Lib.hid hnd
    clear hnd
    go_wp2
    simp [bodyPostD, Leaves, results, Tryz.results165, go_sem]
    exact ⟨q, r, ⟨rfl, rfl⟩, Q.out⟩
  · have t1 : ((n : Int) == 1) = false := by rw [beq_eq_false_iff_ne]; omega
    have HCM := Lib.hid (cmp_any x y N D w hx.rw hy.rw (by omega) (by omega))
    obtain ⟨C, hC⟩ : ∃ C, C = cmpN N D := ⟨_, rfl⟩
    rw [← hC] at HCM
    by_cases hlt : N < D
    · have t2 : decide (C < 0) = true := by rw [hC, cmpN_lt hlt]; decide
      have HC : Hid (∀ k, Calls Tryz.prog 135 #[z2, x] (w.drewN k) fun e w' => ∃ r, e = .returned r ∧ IsS r ∧ NdP z z2 (subS z 0 0) r N D B w w') := Lib.hid (fun k => by
        have h1 : NatR z (subS z 0 0) (N / D) B w (w.drewN k) := by
          rw [Nat.div_eq_of_lt hlt]
          exact ⟨by have := (hz.drewN k).sub (l := 0) (n := 0) (Nat.le_refl _) (Nat.zero_le _); simpa [cellsW, wds_zero] using this, undrewN' (Below.refl _ _), fun _ _ _ => rfl, fun hc => .inl ⟨by rw [subS_cap hz.isS] at hc; exact hc, subS_blk hz.isS⟩⟩
        refine (set_at z2 x z2s (wds N) B (w.drewN k) (hz2.drewN k) (hx.rw.drewN k) (by rw [wds_length]; omega) hB).mono ?_
        rintro _ w' ⟨r, rfl, g1, g2, g3, g4⟩
        refine ⟨r, rfl, g1.isS, .of hz hz2 hzz h1 ⟨?_, g2, g3, g4⟩⟩
        rw [Nat.mod_eq_of_lt hlt]; exact g1)
      have hSq : IsS (subS z 0 0) := subS_isS hSz (Nat.zero_le _) (Nat.zero_le _)
      have hc0 : 0 ≤ sCap z := Nat.zero_le _
      clear hz hz2 hx hy ax hzz hxz hyz hB hT hg hne h1 hC hlt
      go_enter_defers Tryz.func165, Tryz.ntmps165
      go_wp2_with fail
      refine HCM.out.mono ?_
      rintro _ _ ⟨rfl, k, rfl⟩
      go_wp2_with fail
      refine (HC.out k).mono ?_
      rintro _ w2 ⟨r, rfl, hSr, hnd⟩
      have Q := Lib.hid hnd
      clear hnd
      go_wp2
      simp [bodyPostD, Leaves, results, Tryz.results165, go_sem]
      exact ⟨_, r, ⟨rfl, rfl⟩, Q.out⟩
    · have t2 : decide (C < 0) = false := by
        rw [hC]
        unfold cmpN
        rw [if_neg hlt]
        split <;> rfl
      have hnl : nw D ≤ nw N := nw_mono (by omega)
      obtain ⟨s, hs⟩ : ∃ s, s = w.heap.size := ⟨_, rfl⟩
      have HDL : Hid (∀ k, Calls Tryz.prog 199 #[z, .pointer (some ⟨s, 0, none⟩), z2, x, y] ((w.drewN k).alloc (.cells #[.pointer none] 182)) fun e w' => ∃ q r, e = .returned (.tuple #[q, r]) ∧ ∃ o', DlP z z2 q r N D B s 0 none o' ((w.drewN k).alloc (.cells #[.pointer none] 182)) w') := Lib.hid (fun k => by
        have hb : Below w.heap.size w ((w.drewN k).alloc (.cells #[.pointer none] 182)) := (undrewN' (Below.refl _ _)).alloc (by simp) _
        have hst : StO ((w.drewN k).alloc (.cells #[.pointer none] 182)) B s 0 none := ⟨by omega, by rw [hs]; exact heap_alloc_new (w.drewN k) _, rfl⟩
        have hno : ∀ b, b < w.heap.size → ¬ SBk s none b := fun b hb' hk => by
          rcases hk with h | ⟨_, h, _⟩
          · omega
          · cases h
        have hxl : sBlk x < w.heap.size := hx.rw.ri.lt (by rw [ints_length, wds_length]; omega)
        have hyl : sBlk y < w.heap.size := hy.rw.ri.lt (by rw [ints_length, wds_length]; omega)
        exact divLarge_any z z2 x y zs z2s N D B s 0 none _ (hz.below hb) (hz2.below hb) (hx.below hb) (hy.below hb) (by omega) hn40 hnl hlu hst (by decide) (fun hc => hno _ (hz.lt hc).2) (fun hc => hno _ (hz2.lt hc).2) (hno _ hxl) (hno _ hyl) hzz (fun hc he => absurd he (hxz hc)) hyz (Nat.le_trans hB hb.size) (hT.below hb) hg)
      have HND : Hid (∀ k q r o' w', DlP z z2 q r N D B s 0 none o' ((w.drewN k).alloc (.cells #[.pointer none] 182)) w' → NdP z z2 q r N D B w w' ∧ StO w' B s 0 o' ∧ (∀ k, SBk s o' k → w.heap.size ≤ k)) := Lib.hid (fun k q r o' w' h => by
        have hb : Below w.heap.size w ((w.drewN k).alloc (.cells #[.pointer none] 182)) := (undrewN' (Below.refl _ _)).alloc (by simp) _
        have hno : ∀ b, SBk s none b → w.heap.size ≤ b := fun b hk => by
          rcases hk with h | ⟨_, h, _⟩
          · omega
          · cases h
        refine ⟨h.nd hz hz2 hB hb hno rfl, h.st, fun b hk => ?_⟩
        rcases h.sb b hk with h1 | h1
        · exact hno b h1
        · exact Nat.le_trans hb.size h1)
      have hsz : ∀ k, (w.drewN k).heap.size = s := fun k => by rw [hs]; rfl
      have HSZ := Lib.hid hsz
      have HB := Lib.hid hB
      have hsB := Lib.hid hs
      clear hz hz2 hx hy ax hzz hxz hyz hB hT hg hne h1 hC hlt hnl hsz hs
      go_enter_defers Tryz.func165, Tryz.ntmps165
      go_wp2_with fail
      refine HCM.out.mono ?_
      rintro _ _ ⟨rfl, k, rfl⟩
      go_wp2_with fail
      refine (getStack_any _).mono ?_
      rintro _ _ ⟨rfl, rfl⟩
      rw [HSZ.out k]
      go_wp2_with fail
      refine (HDL.out k).mono ?_
      rintro _ w6 ⟨q, r, rfl, o', hdl⟩
      obtain ⟨hnd, hst, hsb⟩ := HND.out k q r o' w6 hdl
      have hSq := hdl.oq.isS
      have hSr := hdl.or_.isS
      have ND := Lib.hid hnd
      clear hnd hdl HDL HND
      match o', hst, hsb with
      | none, ⟨g0, g1, _⟩, hsb =>
        have HR := Lib.hid (free_d s .returning w6 (row_at (i := 0) g1 rfl).1)
        clear g0 g1 hsb
        go_wp2
        refine leaves_cons (f := 121) (args := #[.pointer (some ⟨s, 0, none⟩)]) (by simp) (by simp [go_sem]) ?_
        refine HR.out.mono ?_
        rintro e u' w'' ⟨rfl, rfl, rfl⟩
        simp [Leaves, settle, results, Tryz.results165, go_sem]
        exact ⟨_, _, ⟨rfl, rfl⟩, ND.out⟩
      | some (q0, v0), ⟨g0, g1, g2, g3, xs, g4, g5⟩, hsb =>
        simp only at g1 g2 g3 g4
        have HR := Lib.hid (free_some s q0 v0 .returning w6 g2 g3 g4.isS)
        have Q := Lib.hid (ND.out.set (i := 0) (u := subS v0 0 0) g3 (by decide) (hsb q0 (.inr ⟨_, rfl, .inl rfl⟩)) HB.out)
        clear g0 g1 g2 g3 g4 g5 hsb
        go_wp2
        refine leaves_cons (f := 121) (args := #[.pointer (some ⟨s, 0, none⟩)]) (by simp) (by simp [go_sem]) ?_
        refine HR.out.mono ?_
        rintro e u' w'' ⟨rfl, rfl, rfl⟩
        simp [Leaves, settle, results, Tryz.results165, go_sem]
        exact ⟨_, _, ⟨rfl, rfl⟩, Q.out⟩
end Go.Proofs.YtllhnjpnkmjopaaGreatDoor
