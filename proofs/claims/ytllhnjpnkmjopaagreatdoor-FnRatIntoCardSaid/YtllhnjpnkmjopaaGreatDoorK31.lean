/-
Texts of this proof, joined: NmC. No condition.
-/
import Derived.Test.YtllhnjpnkmjopaaGreatDoorK24
import Derived.Test.YtllhnjpnkmjopaaGreatDoorK25
import Derived.Test.YtllhnjpnkmjopaaGreatDoorK30
import Derived.Deep.RegionHeld3
namespace Go.Proofs.YtllhnjpnkmjopaaGreatDoor
open Go.RowKit

theorem cmpS_one {G : Nat} : (cmpS false G false 1 = 0) ↔ G = 1 := by
  have h : cmpS false G false 1 = cmpN G 1 := rfl
  rw [h]
  unfold cmpN
  split
  · constructor <;> intro h <;> omega
  · split <;> constructor <;> intro h <;> omega
theorem one_rw {w : World} {b T : Nat} (h : w.heap[b]? = some (.cells #[.int .u64 1] T (0, 0))) : RW w (.slice (some ⟨b, 0, none⟩) 1 1) (wds 1) := by
  have hc := (row_at (i := 0) h rfl).1
  rw [wds_one]
  refine ⟨⟨⟨fun _ => rfl, Nat.le_refl _⟩, rfl, fun i hi => ?_⟩, fun d hd => ?_⟩
  · rw [ints_length] at hi
    obtain rfl : i = 0 := by simp at hi; omega
    exact hc
  · rw [List.mem_singleton.1 hd]; decide
theorem RatP.lt {w : World} {B b n d : Nat} {neg : Bool} (h : RatP w B b neg n d) : b < w.heap.size := by
  obtain ⟨_, _, _, h2, _⟩ := h
  exact get_lt h2
set_option maxRecDepth 100000 in
set_option maxHeartbeats 3200000 in
theorem norm_rat (g B N D : Nat) (n m : Bool) (va vb : Value) (w : World) (row : w.heap[g]? = some (.cells #[.bool n, va, .bool m, vb] 112 (0, 0))) (oa : Own w B 116 va (cellsW (wds N))) (ob : Own w B 116 vb (cellsW (wds D)))
    (hab : 0 < sCap va → 0 < sCap vb → sBlk va ≠ sBlk vb) (hN0 : 0 < N) (hD0 : 0 < D) (hN : nw N < 40) (hD : nw D < 40) (hB : B ≤ g) (hT : DivW w) (hg : 4 < B) :
    Calls Tryz.prog 125 #[.pointer (some ⟨g, 0, none⟩)] w fun e w' => e = .returned (.pointer (some ⟨g, 0, none⟩)) ∧ NmP g B (N / Nat.gcd N D) (D / Nat.gcd N D) n va vb w w' := by
  have hSa := oa.isS
  have hSb := ob.isS
  obtain ⟨l, hl⟩ : ∃ l, l = nw N := ⟨_, rfl⟩
  obtain ⟨d, hd⟩ : ∃ d, d = nw D := ⟨_, rfl⟩
  have la : sLen va = l := by rw [oa.len, cellsW_length, wds_length, hl]
  have lb : sLen vb = d := by rw [ob.len, cellsW_length, wds_length, hd]
  have hl0 : 0 < l := by rw [hl]; exact nw_pos hN0
  have hd0 : 0 < d := by rw [hd]; exact nw_pos hD0
  have t0 : ((l : Int) == 0) = false := by rw [beq_eq_false_iff_ne]; omega
  have t1 : decide (l = 0) = false := decide_eq_false (by omega)
  have t2 : ((d : Int) == 0) = false := by rw [beq_eq_false_iff_ne]; omega
  have t3 : decide (d = 0) = false := decide_eq_false (by omega)
  obtain ⟨c0, f0⟩ := row_at (i := 0) row rfl
  obtain ⟨c1, f1⟩ := row_at (i := 1) row rfl
  obtain ⟨c2, f2⟩ := row_at (i := 2) row rfl
  obtain ⟨c3, f3⟩ := row_at (i := 3) row rfl
  obtain ⟨s, hs⟩ : ∃ s, s = w.heap.size := ⟨_, rfl⟩
  obtain ⟨W, hW⟩ : ∃ W, W = w.alloc (.cells #[.pointer none] 182) := ⟨_, rfl⟩
  have hbW : Below w.heap.size w W := by rw [hW]; exact fbone _
  have hWz : W.heap.size = s + 1 := by rw [hW, hs]; simp
  have rs : W.heap[s]? = some (.cells #[.pointer none] 182 (0, 0)) := by rw [hW, hs]; exact heap_alloc_new w _
  have rg := keep_row hbW row
  have hBw : B ≤ w.heap.size := Nat.le_trans hB (Nat.le_of_lt (get_lt row))
  obtain ⟨G, hG⟩ : ∃ G, G = Nat.gcd N D := ⟨_, rfl⟩
  have hG0 : 0 < G := by rw [hG]; exact Nat.gcd_pos_of_pos_left _ hN0
  have hG40 : nw G < 40 := Nat.lt_of_le_of_lt (nw_mono (by rw [hG]; exact Nat.gcd_le_left _ hN0)) hN
  -- the box of the greatest common divisor
  have HL : Hid (∀ k, Calls Tryz.prog 162 #[.pointer (some ⟨s + 1, 0, none⟩), .pointer none, .pointer none, .pointer (some ⟨g, 0, none⟩), .pointer (some ⟨g, 2, none⟩)] ((((W.setCell ⟨g, 0, none⟩ (.bool false)).setCell ⟨g, 2, none⟩ (.bool false)).drewN k).alloc (.cells #[.bool false, .slice none 0 0] 110)) fun e w' => e = .returned (.pointer (some ⟨s + 1, 0, none⟩)) ∧ ∃ rv, IsS rv ∧ NmW w va vb g (s + 1) s B N D G none false false va vb rv w') := Lib.hid (fun k => by
    obtain ⟨V, hV⟩ : ∃ V, V = (((W.setCell ⟨g, 0, none⟩ (.bool false)).setCell ⟨g, 2, none⟩ (.bool false)).drewN k).alloc (.cells #[.bool false, .slice none 0 0] 110) := ⟨_, rfl⟩
    rw [← hV]
    have r1 := rowset (i := 0) (.bool false) rg
    have r2 := rowset (i := 2) (.bool false) r1
    have hn0 : ((W.setCell ⟨g, 0, none⟩ (.bool false)).setCell ⟨g, 2, none⟩ (.bool false)).heap.size = s + 1 := by simp [hWz]
    have hn1 : (((W.setCell ⟨g, 0, none⟩ (.bool false)).setCell ⟨g, 2, none⟩ (.bool false)).drewN k).heap.size = s + 1 := hn0
    have hgs : g < s := by rw [hs]; exact get_lt row
    have rV : V.heap[g]? = some (.cells #[.bool false, va, .bool false, vb] 112 (0, 0)) := by rw [hV]; exact keep_row (fbone _) r2
    have rsV : V.heap[s]? = some (.cells #[.pointer none] 182 (0, 0)) := by
      rw [hV]
      refine keep_row (fbone _) ?_
      show ((W.setCell ⟨g, 0, none⟩ (.bool false)).setCell ⟨g, 2, none⟩ (.bool false)).heap[s]? = _
      rw [heap_setCell_other _ _ _ _ (by simp only; omega), heap_setCell_other _ _ _ _ (by simp only; omega)]
      exact rs
    have rz : V.heap[s + 1]? = some (.cells #[.bool false, .slice none 0 0] 110 (0, 0)) := by
      rw [hV, ← hn1]; exact heap_alloc_new _ _
    have oaV : Own V B 116 va (cellsW (wds N)) := by
      rw [hV]; exact (((((oa.below hbW).away rg (by decide) 0 _).away r1 (by decide) 2 _).drewN k).below (fbone _))
    have obV : Own V B 116 vb (cellsW (wds D)) := by
      rw [hV]; exact (((((ob.below hbW).away rg (by decide) 0 _).away r1 (by decide) 2 _).drewN k).below (fbone _))
    have hbV : Below B w V := by
      rw [hV]
      exact (undrewN' (bset (bset (hbW.mono hBw) hB) hB)).alloc (by rw [hn1]; omega) _
    have hVz : V.heap.size = s + 2 := by rw [hV]; simp [hWz]
    have hfr : NmF g va vb w V := fun j hj hne _ _ => by
      rw [hV]
      refine ((fbone (W := ((W.setCell ⟨g, 0, none⟩ (.bool false)).setCell ⟨g, 2, none⟩ (.bool false)).drewN k) _).block j (by rw [hn1]; omega)).trans ?_
      show ((W.setCell ⟨g, 0, none⟩ (.bool false)).setCell ⟨g, 2, none⟩ (.bool false)).heap[j]? = _
      rw [heap_setCell_other _ _ _ _ (by simp only; omega), heap_setCell_other _ _ _ _ (by simp only; omega)]
      exact hbW.block j hj
    have hTV : DivW V := hT.belowB hbV hg
    refine (lehmer_any (s + 1) g g 0 2 N D false false va vb _ _ _ _ V rz rV rV rfl rfl rfl rfl (oaV.rw' (fun d hd => wds_lt hd)) (obV.rw' (fun d hd => wds_lt hd)) hN0 hD0 hN hD hTV).mono ?_
    rintro e w' ⟨he, rv, w1, rfl, ho, hb⟩
    have q1 := rowset (i := 1) rv (keep_row hb rz)
    have q2 := rowset (i := 0) (.bool false) q1
    have hb1 : Below V.heap.size V ((w1.setCell ⟨s + 1, 1, none⟩ rv).setCell ⟨s + 1, 0, none⟩ (.bool false)) → True := fun _ => trivial
    have hz1 := hb.size
    have keep : ∀ j, j < V.heap.size → j ≠ s + 1 → ((w1.setCell ⟨s + 1, 1, none⟩ rv).setCell ⟨s + 1, 0, none⟩ (.bool false)).heap[j]? = V.heap[j]? := fun j hj hne => by
      rw [heap_setCell_other _ _ _ _ (by simpa using hne), heap_setCell_other _ _ _ _ (by simpa using hne)]
      exact hb.block j hj
    have hbb : Below B V ((w1.setCell ⟨s + 1, 1, none⟩ rv).setCell ⟨s + 1, 0, none⟩ (.bool false)) := bset (bset (hb.mono (by omega)) (by omega)) (by omega)
    have hno : ∀ v : Value, sBlk v < s ∨ s + 2 ≤ sBlk v → ¬ SBk s none (sBlk v) := fun v hv hk => by
      rcases hk with h | ⟨_, h, _⟩
      · omega
      · cases h
    have hla : 0 < sCap va → sBlk va < s := fun hc => by have := (oa.lt hc).2; omega
    have hlb : 0 < sCap vb → sBlk vb < s := fun hc => by have := (ob.lt hc).2; omega
    have hlr : 0 < sCap rv → s + 2 ≤ sBlk rv := fun hc => by have := (ho.lt hc).1; omega
    refine ⟨he, rv, ho.isS, ⟨(keep g (by omega) (by omega)).trans rV, q2, oaV.same fun hc => keep _ (oaV.lt hc).2 (by have := hla hc; omega), obV.same fun hc => keep _ (obV.lt hc).2 (by have := hlb hc; omega), ?_, hab, fun a b he => ?_, fun a b he => ?_, ⟨by omega, (keep s (by omega) (by omega)).trans rsV, rfl⟩, fun hc => hno _ (.inl (hla hc)), fun hc => hno _ (.inl (hlb hc)), fun hc => hno _ (.inr (hlr hc)), hB, hTV.belowB hbb hg, hg, hbV.trans hbb, fun j hj a b c => (keep j (by omega) (by omega)).trans (hfr j hj a b c), fun j hk => ?_, fun hc => .inl ⟨hc, rfl⟩, fun hc => .inl ⟨hc, rfl⟩⟩⟩
    · rw [hG]
      exact ((ho.mono (show B ≤ V.heap.size by omega)).away (keep_row hb rz) (by decide) 1 rv).away q1 (by decide) 0 _
    · have := hla a; have := hlr b; omega
    · have := hlb a; have := hlr b; omega
    · rcases hk with h | ⟨_, h, _⟩
      · omega
      · cases h)
  have HCM : Hid (∀ (rv : Value) (w' : World), NmW w va vb g (s + 1) s B N D G none false false va vb rv w' → Calls Tryz.prog 163 #[.pointer (some ⟨s + 1, 0, none⟩), .pointer (some ⟨w'.heap.size + 1, 0, none⟩)] ((w'.alloc (.cells #[.int .u64 1] 116)).alloc (.cells #[.bool false, .slice (some ⟨w'.heap.size, 0, none⟩) 1 1] 110)) fun e w2 => e = .returned (.int .i64 (cmpS false G false 1)) ∧ NmW w va vb g (s + 1) s B N D G none false false va vb rv w2) := Lib.hid (fun rv w' h => by
    have b1 : Below w'.heap.size w' (w'.alloc (.cells #[.int .u64 1] 116)) := fbone _
    have b2 : Below w'.heap.size w' ((w'.alloc (.cells #[.int .u64 1] 116)).alloc (.cells #[.bool false, .slice (some ⟨w'.heap.size, 0, none⟩) 1 1] 110)) := b1.alloc (by simp) _
    have hh := h.below b2
    have hz : (w'.alloc (.cells #[.int .u64 1] 116)).heap.size = w'.heap.size + 1 := by simp
    have rx : ((w'.alloc (.cells #[.int .u64 1] 116)).alloc (.cells #[.bool false, .slice (some ⟨w'.heap.size, 0, none⟩) 1 1] 110)).heap[w'.heap.size + 1]? = some (.cells #[.bool false, .slice (some ⟨w'.heap.size, 0, none⟩) 1 1] 110 (0, 0)) := by rw [← hz]; exact heap_alloc_new _ _
    have rw0 : ((w'.alloc (.cells #[.int .u64 1] 116)).alloc (.cells #[.bool false, .slice (some ⟨w'.heap.size, 0, none⟩) 1 1] 110)).heap[w'.heap.size]? = some (.cells #[.int .u64 1] 116 (0, 0)) := keep_row (fbone _) (heap_alloc_new _ _)
    have hne : s + 1 ≠ w'.heap.size + 1 := by have := get_lt h.rf; omega
    have hu : RW ((w'.alloc (.cells #[.int .u64 1] 116)).alloc (.cells #[.bool false, .slice (some ⟨w'.heap.size, 0, none⟩) 1 1] 110)) (.slice (some ⟨w'.heap.size, 0, none⟩) 1 1) (wds 1) := one_rw rw0
    refine (intCmp (s + 1) (w'.heap.size + 1) false false rv (.slice (some ⟨w'.heap.size, 0, none⟩) 1 1) G 1 _ hne hh.rf rx (hh.og.rw' (fun d hd => wds_lt hd)) hu (by omega) (by decide)).mono ?_
    rintro e w2 ⟨he, k, rfl⟩
    exact ⟨he, hh.drewN k⟩)
  have HBN := Lib.hid (And.intro hG0 (And.intro hN0 (And.intro hD0 (And.intro hG40 (And.intro hN hD)))))
  have HGD := Lib.hid hG
  have hQo : ∀ w', (Ending.outgrown = Ending.returned (.pointer (some ⟨g, 0, none⟩)) ∧ NmP g B (N / G) (D / G) n va vb w w') → False := fun _ h => by cases h.1
  rw [← hG]
  obtain ⟨i0, j0⟩ := row_at (i := 0) rg rfl
  obtain ⟨i2, j2⟩ := row_at (i := 2) (rowset (i := 0) (.bool false) rg) rfl
  have HWZ : Hid (∀ k, (((W.setCell ⟨g, 0, none⟩ (.bool false)).setCell ⟨g, 2, none⟩ (.bool false)).drewN k).heap.size = s + 1) := Lib.hid (fun k => by show ((W.setCell ⟨g, 0, none⟩ (.bool false)).setCell ⟨g, 2, none⟩ (.bool false)).heap.size = s + 1; simp [hWz])
  have HS := Lib.hid hs
  have hW' := Lib.hid hW
  clear row oa ob hab hN0 hD0 hN hD hB hT hg hl hd hl0 hd0 hbW hWz rs rg hBw hG hG0 hG40 hs hW
  go_enter_defers Tryz.func125, Tryz.ntmps125
  go_wp2_with fail
  refine (getStack_any _).mono ?_
  rintro _ _ ⟨rfl, rfl⟩
  rw [← hW'.out, ← HS.out]
  clear c0 f0 c1 f1 c2 f2 c3 f3
  go_upto_region 10 with fail
  (refine wp_region_noPanic ?_; refine wp_region_hoistP [1, 2, 3, 4, 5, 6] [] [] [0, 7, 8] (by kernel_rfl) (by kernel_rfl) ⟨fun _ _ _ h => h, fun _ w'' h => hQo w'' h⟩ ?_; simp only [pickOps, List.flatMap_cons, List.flatMap_nil, Option.toList_some, List.cons_append, List.nil_append, List.getElem?_toArray, List.getElem?_cons_zero, List.getElem?_cons_succ]; (repeat (go_big_quiet_step (fail))); refine wpQuiet_nil ?_; (repeat (go_big_quiet_step (fail))); refine wpQuiet_nil ?_; rintro _ ⟨nq, rfl⟩; (repeat (go_big_quiet_step (fail))); refine wpQuiet_nil ?_)
  go_wp2_with fail
  refine (newInt0 _).mono ?_
  rintro _ _ ⟨rfl, rfl⟩
  rw [HWZ.out]
  go_wp2_with fail
  refine (HL.out _).mono ?_
  rintro _ w4 ⟨rfl, rv, hSr, hnm⟩
  have HN4 := Lib.hid hnm
  clear hnm HL i0 j0 i2 j2
  go_wp2_with fail
  refine NoPanic.normal ?_
  go_wp2_with fail
  refine (intOne_any _).mono ?_
  rintro _ _ ⟨rfl, rfl⟩
  go_wp2_with fail
  refine (HCM.out rv w4 HN4.out).mono ?_
  rintro _ w5 ⟨rfl, hn5⟩
  clear HCM HN4
  by_cases hg1 : G = 1
  · have hc : cmpS false G false 1 = 0 := cmpS_one.2 hg1
    rw [hc]
    have e1 : N / G = N := by rw [hg1, Nat.div_one]
    have e2 : D / G = D := by rw [hg1, Nat.div_one]
    have HN5 : Hid (NmW w va vb g (s + 1) s B (N / G) (D / G) G none false false va vb rv w5) := Lib.hid (by rw [e1, e2]; exact hn5)
    have HN6 := Lib.hid (HN5.out.put (i := 0) (u := .bool n) (n' := n) (m' := false) rfl)
    obtain ⟨i0, j0⟩ := row_at (i := 0) HN5.out.row rfl
    have HFR := Lib.hid (free_d s .returning _ HN6.out.fin0.1)
    have HFP := Lib.hid HN6.out.fin0.2
    clear hn5 hc e1 e2 hg1
    go_wp2
    refine leaves_cons (f := 121) (args := #[.pointer (some ⟨s, 0, none⟩)]) (by simp) (by simp [go_sem]) ?_
    refine HFR.out.mono ?_
    rintro e u' w'' ⟨rfl, rfl, rfl⟩
    simp [Leaves, settle, results, Tryz.results125, go_sem]
    exact HFP.out
  · obtain ⟨C, hC⟩ : ∃ C, C = cmpS false G false 1 := ⟨_, rfl⟩
    rw [← hC]
    have tc : (C == 0) = false := by rw [beq_eq_false_iff_ne, hC]; exact fun h => hg1 (cmpS_one.1 h)
    have tc2 : (C != 0) = true := by simp [bne, tc]
    have HN5 := Lib.hid hn5
    obtain ⟨i1, -⟩ := row_at (i := 1) hn5.row rfl
    obtain ⟨k1, -⟩ := row_at (i := 1) hn5.rf rfl
    clear hn5 hg1 hC
    go_upto_region 12 with fail
    (refine wp_region_noPanic ?_; refine wp_region_hoistP [0, 1, 2, 3, 4, 6, 7, 8, 9, 10, 12, 13, 14] [5, 11, 15] [] [16, 17, 18, 19, 20, 21, 22, 23] (by kernel_rfl) (by kernel_rfl) ⟨fun _ _ _ h => h, fun _ w'' h => hQo w'' h⟩ ?_; simp only [pickOps, List.flatMap_cons, List.flatMap_nil, Option.toList_some, List.cons_append, List.nil_append, List.getElem?_toArray, List.getElem?_cons_zero, List.getElem?_cons_succ]; (repeat (go_big_quiet_step (fail))); refine wpQuiet_nil ?_; (repeat (go_big_quiet_step (fail))); refine wpQuiet_nil ?_; rintro _ ⟨nq, rfl⟩; (repeat (go_big_quiet_step (fail))); refine wpQuiet_nil ?_)
    go_wp2_with fail
    refine ((HN5.out.drewN _).callA HBN.out.1 HBN.out.2.1 HBN.out.2.2.2.1 (by have := HBN.out.2.2.2.2.1; omega)).mono ?_
    rintro _ w6 ⟨q, r, rfl, hSq, hSr2, o', hd⟩
    obtain ⟨hr6, hn6⟩ := (HN5.out.drewN _).divA hd
    obtain ⟨i1, j1⟩ := row_at (i := 1) hr6 rfl
    have HN6 := Lib.hid hn6
    clear hd hr6 hn6 k1
    go_wp2_with fail
    refine NoPanic.normal ?_
    obtain ⟨i3, -⟩ := row_at (i := 3) HN6.out.row rfl
    obtain ⟨k1, -⟩ := row_at (i := 1) HN6.out.rf rfl
    clear i1 j1
    obtain ⟨w7, hw7⟩ : ∃ w7, w7 = w6.setCell ⟨g, 1, none⟩ q := ⟨_, rfl⟩
    rw [← hw7] at HN6 i3 k1 ⊢
    clear hw7
    go_upto_region 13 with fail
    (refine wp_region_noPanic ?_; refine wp_region_hoistP [0, 1, 2, 3, 4, 6, 7, 8, 9, 10, 12, 13, 14] [5, 11, 15] [] [16, 17, 18, 19, 20, 21, 22, 23] (by kernel_rfl) (by kernel_rfl) ⟨fun _ _ _ h => h, fun _ w'' h => hQo w'' h⟩ ?_; simp only [pickOps, List.flatMap_cons, List.flatMap_nil, Option.toList_some, List.cons_append, List.nil_append, List.getElem?_toArray, List.getElem?_cons_zero, List.getElem?_cons_succ]; (repeat (go_big_quiet_step (fail))); refine wpQuiet_nil ?_; (repeat (go_big_quiet_step (fail))); refine wpQuiet_nil ?_; rintro _ ⟨nq, rfl⟩; (repeat (go_big_quiet_step (fail))); refine wpQuiet_nil ?_)
    go_wp2_with fail
    refine ((HN6.out.drewN _).callB HBN.out.1 HBN.out.2.2.1 HBN.out.2.2.2.1 (by have := HBN.out.2.2.2.2.2; omega)).mono ?_
    rintro _ w8 ⟨q2, r2, rfl, hSq2, hSr3, o2, hd⟩
    obtain ⟨hr8, hn8⟩ := (HN6.out.drewN _).divB hd
    obtain ⟨i3, j3⟩ := row_at (i := 3) hr8 rfl
    have HN8 := Lib.hid hn8
    clear hd hr8 hn8 k1
    go_wp2_with fail
    refine NoPanic.normal ?_
    obtain ⟨i0, j0⟩ := row_at (i := 0) HN8.out.row rfl
    clear i3 j3
    obtain ⟨w9, hw9⟩ : ∃ w9, w9 = w8.setCell ⟨g, 3, none⟩ q2 := ⟨_, rfl⟩
    rw [← hw9] at HN8 i0 j0 ⊢
    clear hw9 HN5 HN6
    have HN9 := Lib.hid (HN8.out.put (i := 0) (u := .bool n) (n' := n) (m' := false) rfl)
    clear HN8
    match o2, HN9 with
    | none, HN9 =>
      have HFR := Lib.hid (free_d s .returning _ HN9.out.fin0.1)
      have HFP := Lib.hid HN9.out.fin0.2
      go_wp2
      refine leaves_cons (f := 121) (args := #[.pointer (some ⟨s, 0, none⟩)]) (by simp) (by simp [go_sem]) ?_
      refine HFR.out.mono ?_
      rintro e u' w'' ⟨rfl, rfl, rfl⟩
      simp [Leaves, settle, results, Tryz.results125, go_sem]
      exact HFP.out
    | some (q0, v0), HN9 =>
      have HFR := Lib.hid (free_some s q0 v0 .returning _ HN9.out.fin.1 HN9.out.fin.2.1 HN9.out.fin.2.2.1)
      have HFP := Lib.hid HN9.out.fin.2.2.2
      go_wp2
      refine leaves_cons (f := 121) (args := #[.pointer (some ⟨s, 0, none⟩)]) (by simp) (by simp [go_sem]) ?_
      refine HFR.out.mono ?_
      rintro e u' w'' ⟨rfl, rfl, rfl⟩
      simp [Leaves, settle, results, Tryz.results125, go_sem]
      exact HFP.out
end Go.Proofs.YtllhnjpnkmjopaaGreatDoor
