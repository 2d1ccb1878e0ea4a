/-
Texts of this proof, joined: FlW. No condition.
-/
import Derived.Test.YtgbmlaffilccnaaGreatDoorK02
import Derived.Test.YtgbmlaffilccnaaGreatDoorK18
/-
The reference's dyadic values: Sum, Order. Printed by XFlW.gen.py. No condition.
-/
namespace Go.Proofs.YtgbmlaffilccnaaGreatDoor
open Go.RowKit

theorem wrapI (a : Nat) (h : a ≤ 4000000000) : IntKind.i64.wrap (a : Int) = (a : Int) := by
  simp [IntKind.wrap, IntKind.signed, IntKind.bits]; omega
def SumP (P Q : Nat) (n1 n2 : Bool) (e : Int) (w : World) (r : Value) (w' : World) : Prop :=
  ∃ ng M, DyV w' r ng M e ∧ sI ng M = sI n1 P + sI n2 Q ∧ Below w.heap.size w w'
set_option maxRecDepth 100000 in
set_option maxHeartbeats 3200000 in
theorem dSum_ff (a b : Value) (e1 e2 e : Int) (x y A B : Nat) (w : World) (ha : NatV w a x) (hb : NatV w b y) (hm : min e1 e2 = e) (hs1 : e1 - e = (A : Int)) (hs2 : e2 - e = (B : Int)) (_g1 : -2000000000 ≤ e1) (_g2 : e1 ≤ 2000000000) (_g3 : -2000000000 ≤ e2) (_g4 : e2 ≤ 2000000000) (_g5 : -2000000000 ≤ e)
    (hx : nl x ≤ 1000000000) (hy : nl y ≤ 1000000000) (hA : A ≤ 4000000000) (hB : B ≤ 4000000000) (hP : nl (x * 2 ^ A) ≤ 1000000000) (hQ : nl (y * 2 ^ B) ≤ 1000000000) :
    Calls Tryz.prog 13 #[.agg #[.bool false, a, .int .i64 e1], .agg #[.bool false, b, .int .i64 e2]] w fun e' w' => ∃ r, e' = .returned r ∧ SumP (x * 2 ^ A) (y * 2 ^ B) false false e w r w' := by
  have hSa := ha.isS
  have hSb := hb.isS
  have hab := (((Below.refl w.heap.size w).alloc (Nat.le_refl _) (.cells #[.bool false, a, .int .i64 e1] 36)).alloc (Nat.le_trans (Nat.le_refl _) (fbone (W := w) (.cells #[.bool false, a, .int .i64 e1] 36)).size) (.cells #[.bool false, b, .int .i64 e2] 36))
  have hac := hab.alloc hab.size (.cells #[.bool false, .slice none 0 0, .int .i64 0] 36)
  obtain ⟨X, hX⟩ : ∃ X, X = ((w.alloc (.cells #[.bool false, a, .int .i64 e1] 36)).alloc (.cells #[.bool false, b, .int .i64 e2] 36)).alloc (.cells #[.bool false, .slice none 0 0, .int .i64 0] 36) := ⟨_, rfl⟩
  have hr1 : X.heap[w.heap.size]? = some (.cells #[.bool false, a, .int .i64 e1] 36 (0, 0)) := by
    rw [hX]; exact keep_row (fbone _) (keep_row (fbone _) (box_row (Below.refl _ _)))
  have hr2 : X.heap[w.heap.size + 1]? = some (.cells #[.bool false, b, .int .i64 e2] 36 (0, 0)) := by
    rw [hX]
    have := keep_row (fbone (W := (w.alloc (.cells #[.bool false, a, .int .i64 e1] 36)).alloc (.cells #[.bool false, b, .int .i64 e2] 36)) (.cells #[.bool false, .slice none 0 0, .int .i64 0] 36)) (box_row (Below.refl _ ((w.alloc (.cells #[.bool false, a, .int .i64 e1] 36)).alloc (.cells #[.bool false, b, .int .i64 e2] 36))))
    simpa using this
  have hr3 : X.heap[w.heap.size + 2]? = some (.cells #[.bool false, .slice none 0 0, .int .i64 0] 36 (0, 0)) := by
    rw [hX]
    have := box_row (Below.refl _ (((w.alloc (.cells #[.bool false, a, .int .i64 e1] 36)).alloc (.cells #[.bool false, b, .int .i64 e2] 36)).alloc (.cells #[.bool false, .slice none 0 0, .int .i64 0] 36)))
    simpa using this
  rw [← hX] at hac
  obtain ⟨x0, x1, x2, -, -, -⟩ := row3 hr1
  obtain ⟨y0, y1, y2, -, -, -⟩ := row3 hr2
  obtain ⟨P, hPP⟩ : ∃ P, P = x * 2 ^ A := ⟨_, rfl⟩
  obtain ⟨Q, hQQ⟩ : ∃ Q, Q = y * 2 ^ B := ⟨_, rfl⟩
  rw [← hPP] at hP ⊢
  rw [← hQQ] at hQ ⊢
  have HPP := Lib.hid hPP
  have HQQ := Lib.hid hQQ
  have HR1 := Lib.hid hr1
  have HR2 := Lib.hid hr2
  have HR3 := Lib.hid hr3
  have HW := Lib.hid hac
  have NA := Lib.hid (ha.below hac)
  have NB := Lib.hid (hb.below hac)
  have hXs := hac.size
  have hcc := Below.refl X.heap.size X
  have hwA := wrapI A hA
  have hwB := wrapI B hB
  clear hr1 hr2 hr3 hac hab ha hb hPP hQQ
  go_enter Tryz.func13, Tryz.ntmps13
  go_upto_region 1 with fail
  rw [← hX]
  clear hX
  go_upto_region 2 with fail
  refine wp_region_held_drew (S := fun w' => w'.cell? ⟨w.heap.size, 0, none⟩ = some (.bool false) ∧ w'.cell? ⟨w.heap.size, 1, none⟩ = some a ∧ w'.cell? ⟨w.heap.size, 2, none⟩ = some (.int .i64 e1) ∧ w'.cell? ⟨w.heap.size + 1, 0, none⟩ = some (.bool false) ∧ w'.cell? ⟨w.heap.size + 1, 1, none⟩ = some b ∧ w'.cell? ⟨w.heap.size + 1, 2, none⟩ = some (.int .i64 e2)) (by kernel_rfl) (ks6 x0 x1 x2 y0 y1 y2 (Below.drew hcc)) (fun hHeld => ?_)
  refine wpAnyH_takeD (i := 0) (dd := some 13) (v := .pointer (some ⟨w.heap.size, 1, none⟩)) (by kernel_rfl) (by kernel_rfl) (by kernel_rfl) (by kernel_rfl) (fun _ _ _ h => h) (fun oi h => ?_) (by assumption) ?_
  · cases h; exact Or.inl ⟨by rfl, by intro w hSw; go_simp⟩
  try simp only [Act.put, List.setIfInBounds_toArray, List.set_cons_zero, List.set_cons_succ]
  refine wpAnyH_takeD (i := 1) (dd := some 14) (v := a) (by kernel_rfl) (by kernel_rfl) (by kernel_rfl) (by kernel_rfl) (fun _ _ _ h => h) (fun oi h => ?_) (by assumption) ?_
  · cases h; exact Or.inl ⟨by rfl, by intro w hSw; go_simp⟩
  try simp only [Act.put, List.setIfInBounds_toArray, List.set_cons_zero, List.set_cons_succ]
  refine wpAnyH_takeD (i := 2) (dd := some 15) (v := .pointer (some ⟨w.heap.size, 2, none⟩)) (by kernel_rfl) (by kernel_rfl) (by kernel_rfl) (by kernel_rfl) (fun _ _ _ h => h) (fun oi h => ?_) (by assumption) ?_
  · cases h; exact Or.inl ⟨by rfl, by intro w hSw; go_simp⟩
  try simp only [Act.put, List.setIfInBounds_toArray, List.set_cons_zero, List.set_cons_succ]
  refine wpAnyH_takeD (i := 3) (dd := some 16) (v := .int .i64 e1) (by kernel_rfl) (by kernel_rfl) (by kernel_rfl) (by kernel_rfl) (fun _ _ _ h => h) (fun oi h => ?_) (by assumption) ?_
  · cases h; exact Or.inl ⟨by rfl, by intro w hSw; go_simp⟩
  try simp only [Act.put, List.setIfInBounds_toArray, List.set_cons_zero, List.set_cons_succ]
  refine wpAnyH_takeD (i := 4) (dd := some 17) (v := .int .i64 e) (by kernel_rfl) (by kernel_rfl) (by kernel_rfl) (by kernel_rfl) (fun _ _ _ h => h) (fun oi h => ?_) (by assumption) ?_
  · cases h; exact Or.inl ⟨by rfl, by intro w hSw; go_simp⟩
  try simp only [Act.put, List.setIfInBounds_toArray, List.set_cons_zero, List.set_cons_succ]
  refine wpAnyH_takeD (i := 5) (dd := some 18) (v := .int .i64 (A : Int)) (by kernel_rfl) (by kernel_rfl) (by kernel_rfl) (by kernel_rfl) (fun _ _ _ h => h) (fun oi h => ?_) (by assumption) ?_
  · cases h; exact Or.inl ⟨by rfl, by intro w hSw; go_simp⟩
  try simp only [Act.put, List.setIfInBounds_toArray, List.set_cons_zero, List.set_cons_succ]
  refine wpAnyH_takeD (i := 7) (dd := some 20) (v := .pointer (some ⟨w.heap.size + 1, 1, none⟩)) (by kernel_rfl) (by kernel_rfl) (by kernel_rfl) (by kernel_rfl) (fun _ _ _ h => h) (fun oi h => ?_) (by assumption) ?_
  · cases h; exact Or.inl ⟨by rfl, by intro w hSw; go_simp⟩
  try simp only [Act.put, List.setIfInBounds_toArray, List.set_cons_zero, List.set_cons_succ]
  refine wpAnyH_takeD (i := 8) (dd := some 21) (v := b) (by kernel_rfl) (by kernel_rfl) (by kernel_rfl) (by kernel_rfl) (fun _ _ _ h => h) (fun oi h => ?_) (by assumption) ?_
  · cases h; exact Or.inl ⟨by rfl, by intro w hSw; go_simp⟩
  try simp only [Act.put, List.setIfInBounds_toArray, List.set_cons_zero, List.set_cons_succ]
  refine wpAnyH_takeD (i := 9) (dd := some 22) (v := .pointer (some ⟨w.heap.size + 1, 2, none⟩)) (by kernel_rfl) (by kernel_rfl) (by kernel_rfl) (by kernel_rfl) (fun _ _ _ h => h) (fun oi h => ?_) (by assumption) ?_
  · cases h; exact Or.inl ⟨by rfl, by intro w hSw; go_simp⟩
  try simp only [Act.put, List.setIfInBounds_toArray, List.set_cons_zero, List.set_cons_succ]
  refine wpAnyH_takeD (i := 10) (dd := some 23) (v := .int .i64 e2) (by kernel_rfl) (by kernel_rfl) (by kernel_rfl) (by kernel_rfl) (fun _ _ _ h => h) (fun oi h => ?_) (by assumption) ?_
  · cases h; exact Or.inl ⟨by rfl, by intro w hSw; go_simp⟩
  try simp only [Act.put, List.setIfInBounds_toArray, List.set_cons_zero, List.set_cons_succ]
  refine wpAnyH_takeD (i := 11) (dd := some 24) (v := .int .i64 e) (by kernel_rfl) (by kernel_rfl) (by kernel_rfl) (by kernel_rfl) (fun _ _ _ h => h) (fun oi h => ?_) (by assumption) ?_
  · cases h; exact Or.inl ⟨by rfl, by intro w hSw; go_simp⟩
  try simp only [Act.put, List.setIfInBounds_toArray, List.set_cons_zero, List.set_cons_succ]
  refine wpAnyH_takeD (i := 12) (dd := some 25) (v := .int .i64 (B : Int)) (by kernel_rfl) (by kernel_rfl) (by kernel_rfl) (by kernel_rfl) (fun _ _ _ h => h) (fun oi h => ?_) (by assumption) ?_
  · cases h; exact Or.inl ⟨by rfl, by intro w hSw; go_simp⟩
  try simp only [Act.put, List.setIfInBounds_toArray, List.set_cons_zero, List.set_cons_succ]
  refine wpAnyH_ready (rs := [6]) (by kernel_rfl) (by simp) (AllReadyH.cons rfl (fun K hK => ?_) AllReadyH.nil)
  go_simp
  go_at_call 28
  refine (spShl a x A _ (NA.out.below (Below.drew hcc)) hx (by omega)).mono ?_
  rintro _ w3 ⟨r, rfl, hr, hb3⟩
  have hSr := hr.isS
  rw [← HPP.out] at hr
  have hb3 : Below X.heap.size X w3 := bthen (Below.drew hcc) hb3
  refine hK.out _ _ (ks6 x0 x1 x2 y0 y1 y2 hb3) (fun hHeld => ?_)
  clear hK K
  try simp only [Act.put, List.setIfInBounds_toArray, List.set_cons_zero, List.set_cons_succ]
  refine wpAnyH_ready (rs := [13]) (by kernel_rfl) (by simp) (AllReadyH.cons rfl (fun K hK => ?_) AllReadyH.nil)
  go_simp
  go_at_call 28
  refine (spShl b y B _ (NB.out.below hb3) hy (by omega)).mono ?_
  rintro _ w4 ⟨s, rfl, hs, hb4⟩
  have hSs := hs.isS
  rw [← HQQ.out] at hs
  have hb4' : Below X.heap.size X w4 := bthen hb3 hb4
  have HS4 := Lib.hid hs
  have HR4 := Lib.hid (hr.below hb4)
  clear hs hr
  refine hK.out _ _ (ks6 x0 x1 x2 y0 y1 y2 hb4') (fun hHeld => ?_)
  clear hK K
  try simp only [Act.put, List.setIfInBounds_toArray, List.set_cons_zero, List.set_cons_succ]
  refine wpAnyH_takeD (i := 14) (dd := some 6) (v := r) (by kernel_rfl) (by kernel_rfl) (by kernel_rfl) (by kernel_rfl) (fun _ _ _ h => h) (fun oi h => ?_) (by assumption) ?_
  · cases h; exact Or.inl ⟨by rfl, by intro w hSw; go_simp⟩
  try simp only [Act.put, List.setIfInBounds_toArray, List.set_cons_zero, List.set_cons_succ]
  refine wpAnyH_takeD (i := 15) (dd := some 7) (v := s) (by kernel_rfl) (by kernel_rfl) (by kernel_rfl) (by kernel_rfl) (fun _ _ _ h => h) (fun oi h => ?_) (by assumption) ?_
  · cases h; exact Or.inl ⟨by rfl, by intro w hSw; go_simp⟩
  try simp only [Act.put, List.setIfInBounds_toArray, List.set_cons_zero, List.set_cons_succ]
  refine wpAnyH_done (by kernel_rfl) ?_ _
  have HX4 := Lib.hid hb4'
  obtain ⟨u0, u1, u2, -, -, -⟩ := row3 (keep_row hb4' HR1.out)
  obtain ⟨t0, t1, t2, -, -, -⟩ := row3 (keep_row hb4' HR2.out)
  have hc4 := Below.refl w4.heap.size w4
  have hfalse := Lib.hid (show w.heap.size + 2 ≠ w.heap.size by omega)
  have hfalse := Lib.hid (show w.heap.size + 2 ≠ w.heap.size + 1 by omega)
  clear x0 x1 x2 y0 y1 y2 hb3 hb4 hb4'
  go_upto_region 4 with fail
  first
    | (go_region_held3 (fun w' => w'.cell? ⟨w.heap.size, 0, none⟩ = some (.bool false) ∧ w'.cell? ⟨w.heap.size, 1, none⟩ = some a ∧ w'.cell? ⟨w.heap.size, 2, none⟩ = some (.int .i64 e1) ∧ w'.cell? ⟨w.heap.size + 1, 0, none⟩ = some (.bool false) ∧ w'.cell? ⟨w.heap.size + 1, 1, none⟩ = some b ∧ w'.cell? ⟨w.heap.size + 1, 2, none⟩ = some (.int .i64 e2))
        ((first | (refine ks6 u0 u1 u2 t0 t1 t2 ?_; first | assumption | exact Below.drew hc4) | exact ks6_set (by omega) (by omega) (ks6_set (by omega) (by omega) (ks6_set (by omega) (by omega) (ks6 u0 u1 u2 t0 t1 t2 (by assumption))))))
        (first
          | (go_at_call 29; refine (spAdd _ _ P Q _ (HR4.out.below (Below.drew hc4)) (HS4.out.below (Below.drew hc4)) hP hQ).mono ?_; rintro _ w6 ⟨q, rfl, hq, hb6⟩; have hSq := hq.isS; have hb6 : Below w4.heap.size w4 w6 := bthen (Below.drew hc4) hb6; have hbX := bthen HX4.out hb6; have hvr := keep_row hbX HR3.out; obtain ⟨hv0, hv1, hv2, hf0, hf1, hf2⟩ := row3 hvr)))
    | fail
  all_goals go_wp2
  all_goals
    obtain ⟨hx0, hx1, hx2, -, -, -⟩ := row3 (row3_set (x := .bool false) (y := q) (z := .int .i64 e) hvr)
    have hn := natv_dyad (x := .bool false) (y := q) (z := .int .i64 e) IsS.nil hq hvr
    have hbY := bset (i := 2) (u := .int .i64 e) (bset (i := 1) (u := q) (bset (i := 0) (u := .bool false) (HW.out.trans (hbX.mono hXs)) (Nat.le_add_right w.heap.size 2)) (Nat.le_add_right w.heap.size 2)) (Nat.le_add_right w.heap.size 2)
    refine bodyPost_ret (v := .agg #[.bool false, q, .int .i64 e]) ?_ rfl ⟨_, rfl, false, _, ⟨_, rfl, hn⟩, ?_, hbY⟩
    · simp [results, Tryz.results13, go_sem, hx0, hx1, hx2]
    · simp only [sI, if_false, Bool.false_eq_true]; omega
set_option maxRecDepth 100000 in
set_option maxHeartbeats 3200000 in
theorem dSum_ft (a b : Value) (e1 e2 e : Int) (x y A B : Nat) (w : World) (ha : NatV w a x) (hb : NatV w b y) (hm : min e1 e2 = e) (hs1 : e1 - e = (A : Int)) (hs2 : e2 - e = (B : Int)) (_g1 : -2000000000 ≤ e1) (_g2 : e1 ≤ 2000000000) (_g3 : -2000000000 ≤ e2) (_g4 : e2 ≤ 2000000000) (_g5 : -2000000000 ≤ e)
    (hx : nl x ≤ 1000000000) (hy : nl y ≤ 1000000000) (hA : A ≤ 4000000000) (hB : B ≤ 4000000000) (hP : nl (x * 2 ^ A) ≤ 1000000000) (hQ : nl (y * 2 ^ B) ≤ 1000000000) :
    Calls Tryz.prog 13 #[.agg #[.bool false, a, .int .i64 e1], .agg #[.bool true, b, .int .i64 e2]] w fun e' w' => ∃ r, e' = .returned r ∧ SumP (x * 2 ^ A) (y * 2 ^ B) false true e w r w' := by
  have hSa := ha.isS
  have hSb := hb.isS
  have hab := (((Below.refl w.heap.size w).alloc (Nat.le_refl _) (.cells #[.bool false, a, .int .i64 e1] 36)).alloc (Nat.le_trans (Nat.le_refl _) (fbone (W := w) (.cells #[.bool false, a, .int .i64 e1] 36)).size) (.cells #[.bool true, b, .int .i64 e2] 36))
  have hac := hab.alloc hab.size (.cells #[.bool false, .slice none 0 0, .int .i64 0] 36)
  obtain ⟨X, hX⟩ : ∃ X, X = ((w.alloc (.cells #[.bool false, a, .int .i64 e1] 36)).alloc (.cells #[.bool true, b, .int .i64 e2] 36)).alloc (.cells #[.bool false, .slice none 0 0, .int .i64 0] 36) := ⟨_, rfl⟩
  have hr1 : X.heap[w.heap.size]? = some (.cells #[.bool false, a, .int .i64 e1] 36 (0, 0)) := by
    rw [hX]; exact keep_row (fbone _) (keep_row (fbone _) (box_row (Below.refl _ _)))
  have hr2 : X.heap[w.heap.size + 1]? = some (.cells #[.bool true, b, .int .i64 e2] 36 (0, 0)) := by
    rw [hX]
    have := keep_row (fbone (W := (w.alloc (.cells #[.bool false, a, .int .i64 e1] 36)).alloc (.cells #[.bool true, b, .int .i64 e2] 36)) (.cells #[.bool false, .slice none 0 0, .int .i64 0] 36)) (box_row (Below.refl _ ((w.alloc (.cells #[.bool false, a, .int .i64 e1] 36)).alloc (.cells #[.bool true, b, .int .i64 e2] 36))))
    simpa using this
  have hr3 : X.heap[w.heap.size + 2]? = some (.cells #[.bool false, .slice none 0 0, .int .i64 0] 36 (0, 0)) := by
    rw [hX]
    have := box_row (Below.refl _ (((w.alloc (.cells #[.bool false, a, .int .i64 e1] 36)).alloc (.cells #[.bool true, b, .int .i64 e2] 36)).alloc (.cells #[.bool false, .slice none 0 0, .int .i64 0] 36)))
    simpa using this
  rw [← hX] at hac
  obtain ⟨x0, x1, x2, -, -, -⟩ := row3 hr1
  obtain ⟨y0, y1, y2, -, -, -⟩ := row3 hr2
  obtain ⟨P, hPP⟩ : ∃ P, P = x * 2 ^ A := ⟨_, rfl⟩
  obtain ⟨Q, hQQ⟩ : ∃ Q, Q = y * 2 ^ B := ⟨_, rfl⟩
  rw [← hPP] at hP ⊢
  rw [← hQQ] at hQ ⊢
  have HPP := Lib.hid hPP
  have HQQ := Lib.hid hQQ
  have HR1 := Lib.hid hr1
  have HR2 := Lib.hid hr2
  have HR3 := Lib.hid hr3
  have HW := Lib.hid hac
  have NA := Lib.hid (ha.below hac)
  have NB := Lib.hid (hb.below hac)
  have hXs := hac.size
  have hcc := Below.refl X.heap.size X
  have hwA := wrapI A hA
  have hwB := wrapI B hB
  clear hr1 hr2 hr3 hac hab ha hb hPP hQQ
  go_enter Tryz.func13, Tryz.ntmps13
  go_upto_region 1 with fail
  rw [← hX]
  clear hX
  go_upto_region 2 with fail
  refine wp_region_held_drew (S := fun w' => w'.cell? ⟨w.heap.size, 0, none⟩ = some (.bool false) ∧ w'.cell? ⟨w.heap.size, 1, none⟩ = some a ∧ w'.cell? ⟨w.heap.size, 2, none⟩ = some (.int .i64 e1) ∧ w'.cell? ⟨w.heap.size + 1, 0, none⟩ = some (.bool true) ∧ w'.cell? ⟨w.heap.size + 1, 1, none⟩ = some b ∧ w'.cell? ⟨w.heap.size + 1, 2, none⟩ = some (.int .i64 e2)) (by kernel_rfl) (ks6 x0 x1 x2 y0 y1 y2 (Below.drew hcc)) (fun hHeld => ?_)
  refine wpAnyH_takeD (i := 0) (dd := some 13) (v := .pointer (some ⟨w.heap.size, 1, none⟩)) (by kernel_rfl) (by kernel_rfl) (by kernel_rfl) (by kernel_rfl) (fun _ _ _ h => h) (fun oi h => ?_) (by assumption) ?_
  · cases h; exact Or.inl ⟨by rfl, by intro w hSw; go_simp⟩
  try simp only [Act.put, List.setIfInBounds_toArray, List.set_cons_zero, List.set_cons_succ]
  refine wpAnyH_takeD (i := 1) (dd := some 14) (v := a) (by kernel_rfl) (by kernel_rfl) (by kernel_rfl) (by kernel_rfl) (fun _ _ _ h => h) (fun oi h => ?_) (by assumption) ?_
  · cases h; exact Or.inl ⟨by rfl, by intro w hSw; go_simp⟩
  try simp only [Act.put, List.setIfInBounds_toArray, List.set_cons_zero, List.set_cons_succ]
  refine wpAnyH_takeD (i := 2) (dd := some 15) (v := .pointer (some ⟨w.heap.size, 2, none⟩)) (by kernel_rfl) (by kernel_rfl) (by kernel_rfl) (by kernel_rfl) (fun _ _ _ h => h) (fun oi h => ?_) (by assumption) ?_
  · cases h; exact Or.inl ⟨by rfl, by intro w hSw; go_simp⟩
  try simp only [Act.put, List.setIfInBounds_toArray, List.set_cons_zero, List.set_cons_succ]
  refine wpAnyH_takeD (i := 3) (dd := some 16) (v := .int .i64 e1) (by kernel_rfl) (by kernel_rfl) (by kernel_rfl) (by kernel_rfl) (fun _ _ _ h => h) (fun oi h => ?_) (by assumption) ?_
  · cases h; exact Or.inl ⟨by rfl, by intro w hSw; go_simp⟩
  try simp only [Act.put, List.setIfInBounds_toArray, List.set_cons_zero, List.set_cons_succ]
  refine wpAnyH_takeD (i := 4) (dd := some 17) (v := .int .i64 e) (by kernel_rfl) (by kernel_rfl) (by kernel_rfl) (by kernel_rfl) (fun _ _ _ h => h) (fun oi h => ?_) (by assumption) ?_
  · cases h; exact Or.inl ⟨by rfl, by intro w hSw; go_simp⟩
  try simp only [Act.put, List.setIfInBounds_toArray, List.set_cons_zero, List.set_cons_succ]
  refine wpAnyH_takeD (i := 5) (dd := some 18) (v := .int .i64 (A : Int)) (by kernel_rfl) (by kernel_rfl) (by kernel_rfl) (by kernel_rfl) (fun _ _ _ h => h) (fun oi h => ?_) (by assumption) ?_
  · cases h; exact Or.inl ⟨by rfl, by intro w hSw; go_simp⟩
  try simp only [Act.put, List.setIfInBounds_toArray, List.set_cons_zero, List.set_cons_succ]
  refine wpAnyH_takeD (i := 7) (dd := some 20) (v := .pointer (some ⟨w.heap.size + 1, 1, none⟩)) (by kernel_rfl) (by kernel_rfl) (by kernel_rfl) (by kernel_rfl) (fun _ _ _ h => h) (fun oi h => ?_) (by assumption) ?_
  · cases h; exact Or.inl ⟨by rfl, by intro w hSw; go_simp⟩
  try simp only [Act.put, List.setIfInBounds_toArray, List.set_cons_zero, List.set_cons_succ]
  refine wpAnyH_takeD (i := 8) (dd := some 21) (v := b) (by kernel_rfl) (by kernel_rfl) (by kernel_rfl) (by kernel_rfl) (fun _ _ _ h => h) (fun oi h => ?_) (by assumption) ?_
  · cases h; exact Or.inl ⟨by rfl, by intro w hSw; go_simp⟩
  try simp only [Act.put, List.setIfInBounds_toArray, List.set_cons_zero, List.set_cons_succ]
  refine wpAnyH_takeD (i := 9) (dd := some 22) (v := .pointer (some ⟨w.heap.size + 1, 2, none⟩)) (by kernel_rfl) (by kernel_rfl) (by kernel_rfl) (by kernel_rfl) (fun _ _ _ h => h) (fun oi h => ?_) (by assumption) ?_
  · cases h; exact Or.inl ⟨by rfl, by intro w hSw; go_simp⟩
  try simp only [Act.put, List.setIfInBounds_toArray, List.set_cons_zero, List.set_cons_succ]
  refine wpAnyH_takeD (i := 10) (dd := some 23) (v := .int .i64 e2) (by kernel_rfl) (by kernel_rfl) (by kernel_rfl) (by kernel_rfl) (fun _ _ _ h => h) (fun oi h => ?_) (by assumption) ?_
  · cases h; exact Or.inl ⟨by rfl, by intro w hSw; go_simp⟩
  try simp only [Act.put, List.setIfInBounds_toArray, List.set_cons_zero, List.set_cons_succ]
  refine wpAnyH_takeD (i := 11) (dd := some 24) (v := .int .i64 e) (by kernel_rfl) (by kernel_rfl) (by kernel_rfl) (by kernel_rfl) (fun _ _ _ h => h) (fun oi h => ?_) (by assumption) ?_
  · cases h; exact Or.inl ⟨by rfl, by intro w hSw; go_simp⟩
  try simp only [Act.put, List.setIfInBounds_toArray, List.set_cons_zero, List.set_cons_succ]
  refine wpAnyH_takeD (i := 12) (dd := some 25) (v := .int .i64 (B : Int)) (by kernel_rfl) (by kernel_rfl) (by kernel_rfl) (by kernel_rfl) (fun _ _ _ h => h) (fun oi h => ?_) (by assumption) ?_
  · cases h; exact Or.inl ⟨by rfl, by intro w hSw; go_simp⟩
  try simp only [Act.put, List.setIfInBounds_toArray, List.set_cons_zero, List.set_cons_succ]
  refine wpAnyH_ready (rs := [6]) (by kernel_rfl) (by simp) (AllReadyH.cons rfl (fun K hK => ?_) AllReadyH.nil)
  go_simp
  go_at_call 28
  refine (spShl a x A _ (NA.out.below (Below.drew hcc)) hx (by omega)).mono ?_
  rintro _ w3 ⟨r, rfl, hr, hb3⟩
  have hSr := hr.isS
  rw [← HPP.out] at hr
  have hb3 : Below X.heap.size X w3 := bthen (Below.drew hcc) hb3
  refine hK.out _ _ (ks6 x0 x1 x2 y0 y1 y2 hb3) (fun hHeld => ?_)
  clear hK K
  try simp only [Act.put, List.setIfInBounds_toArray, List.set_cons_zero, List.set_cons_succ]
  refine wpAnyH_ready (rs := [13]) (by kernel_rfl) (by simp) (AllReadyH.cons rfl (fun K hK => ?_) AllReadyH.nil)
  go_simp
  go_at_call 28
  refine (spShl b y B _ (NB.out.below hb3) hy (by omega)).mono ?_
  rintro _ w4 ⟨s, rfl, hs, hb4⟩
  have hSs := hs.isS
  rw [← HQQ.out] at hs
  have hb4' : Below X.heap.size X w4 := bthen hb3 hb4
  have HS4 := Lib.hid hs
  have HR4 := Lib.hid (hr.below hb4)
  clear hs hr
  refine hK.out _ _ (ks6 x0 x1 x2 y0 y1 y2 hb4') (fun hHeld => ?_)
  clear hK K
  try simp only [Act.put, List.setIfInBounds_toArray, List.set_cons_zero, List.set_cons_succ]
  refine wpAnyH_takeD (i := 14) (dd := some 6) (v := r) (by kernel_rfl) (by kernel_rfl) (by kernel_rfl) (by kernel_rfl) (fun _ _ _ h => h) (fun oi h => ?_) (by assumption) ?_
  · cases h; exact Or.inl ⟨by rfl, by intro w hSw; go_simp⟩
  try simp only [Act.put, List.setIfInBounds_toArray, List.set_cons_zero, List.set_cons_succ]
  refine wpAnyH_takeD (i := 15) (dd := some 7) (v := s) (by kernel_rfl) (by kernel_rfl) (by kernel_rfl) (by kernel_rfl) (fun _ _ _ h => h) (fun oi h => ?_) (by assumption) ?_
  · cases h; exact Or.inl ⟨by rfl, by intro w hSw; go_simp⟩
  try simp only [Act.put, List.setIfInBounds_toArray, List.set_cons_zero, List.set_cons_succ]
  refine wpAnyH_done (by kernel_rfl) ?_ _
  have HX4 := Lib.hid hb4'
  obtain ⟨u0, u1, u2, -, -, -⟩ := row3 (keep_row hb4' HR1.out)
  obtain ⟨t0, t1, t2, -, -, -⟩ := row3 (keep_row hb4' HR2.out)
  have hc4 := Below.refl w4.heap.size w4
  have hfalse := Lib.hid (show w.heap.size + 2 ≠ w.heap.size by omega)
  have htrue := Lib.hid (show w.heap.size + 2 ≠ w.heap.size + 1 by omega)
  clear x0 x1 x2 y0 y1 y2 hb3 hb4 hb4'
  by_cases hc : Q ≤ P
  · have tc : decide (0 ≤ cmpN P Q) = true := decide_eq_true ((cmpN_ge P Q).2 hc)
    go_wp2_with fail
    refine (spCmp _ _ P Q w4 HR4.out HS4.out hP hQ).mono ?_
    rintro _ w5 ⟨rfl, hb5⟩
    have HR5 := Lib.hid (HR4.out.below hb5)
    have HS5 := Lib.hid (HS4.out.below hb5)
    have HX5 := Lib.hid (bthen HX4.out hb5)
    obtain ⟨cm, hcm⟩ : ∃ cm, cm = cmpN P Q := ⟨_, rfl⟩
    rw [← hcm] at tc ⊢
    clear HX4 HR4 HS4 hc4 u0 u1 u2 t0 t1 t2 hcm
    have HX4 := HX5
    obtain ⟨u0, u1, u2, -, -, -⟩ := row3 (keep_row HX4.out HR1.out)
    obtain ⟨t0, t1, t2, -, -, -⟩ := row3 (keep_row HX4.out HR2.out)
    have hc4 := Below.refl w5.heap.size w5
    clear hb5 HX5
    go_upto_region 6 with fail
    first
      | (go_region_held3 (fun w' => w'.cell? ⟨w.heap.size, 0, none⟩ = some (.bool false) ∧ w'.cell? ⟨w.heap.size, 1, none⟩ = some a ∧ w'.cell? ⟨w.heap.size, 2, none⟩ = some (.int .i64 e1) ∧ w'.cell? ⟨w.heap.size + 1, 0, none⟩ = some (.bool true) ∧ w'.cell? ⟨w.heap.size + 1, 1, none⟩ = some b ∧ w'.cell? ⟨w.heap.size + 1, 2, none⟩ = some (.int .i64 e2))
          ((first | (refine ks6 u0 u1 u2 t0 t1 t2 ?_; first | assumption | exact Below.drew hc4) | exact ks6_set (by omega) (by omega) (ks6_set (by omega) (by omega) (ks6_set (by omega) (by omega) (ks6 u0 u1 u2 t0 t1 t2 (by assumption))))))
          (first
            | (go_at_call 31; refine (spSub _ _ P Q _ (HR5.out.below (Below.drew hc4)) (HS5.out.below (Below.drew hc4)) hP hc).mono ?_; rintro _ w6 ⟨q, rfl, hq, hb6⟩; have hSq := hq.isS; have hb6 : Below w5.heap.size w5 w6 := bthen (Below.drew hc4) hb6; have hbX := bthen HX4.out hb6; have hvr := keep_row hbX HR3.out; obtain ⟨hv0, hv1, hv2, hf0, hf1, hf2⟩ := row3 hvr)))
      | fail
    all_goals go_wp2
    all_goals
      obtain ⟨hx0, hx1, hx2, -, -, -⟩ := row3 (row3_set (x := .bool false) (y := q) (z := .int .i64 e) hvr)
      have hn := natv_dyad (x := .bool false) (y := q) (z := .int .i64 e) IsS.nil hq hvr
      have hbY := bset (i := 2) (u := .int .i64 e) (bset (i := 1) (u := q) (bset (i := 0) (u := .bool false) (HW.out.trans (hbX.mono hXs)) (Nat.le_add_right w.heap.size 2)) (Nat.le_add_right w.heap.size 2)) (Nat.le_add_right w.heap.size 2)
      refine bodyPost_ret (v := .agg #[.bool false, q, .int .i64 e]) ?_ rfl ⟨_, rfl, false, _, ⟨_, rfl, hn⟩, ?_, hbY⟩
      · simp [results, Tryz.results13, go_sem, hx0, hx1, hx2]
      · simp only [sI, if_true, if_false, Bool.false_eq_true]; omega
  · have tc : decide (0 ≤ cmpN P Q) = false := decide_eq_false (fun h => hc ((cmpN_ge P Q).1 h))
    go_wp2_with fail
    refine (spCmp _ _ P Q w4 HR4.out HS4.out hP hQ).mono ?_
    rintro _ w5 ⟨rfl, hb5⟩
    have HR5 := Lib.hid (HR4.out.below hb5)
    have HS5 := Lib.hid (HS4.out.below hb5)
    have HX5 := Lib.hid (bthen HX4.out hb5)
    obtain ⟨cm, hcm⟩ : ∃ cm, cm = cmpN P Q := ⟨_, rfl⟩
    rw [← hcm] at tc ⊢
    clear HX4 HR4 HS4 hc4 u0 u1 u2 t0 t1 t2 hcm
    have HX4 := HX5
    obtain ⟨u0, u1, u2, -, -, -⟩ := row3 (keep_row HX4.out HR1.out)
    obtain ⟨t0, t1, t2, -, -, -⟩ := row3 (keep_row HX4.out HR2.out)
    have hc4 := Below.refl w5.heap.size w5
    clear hb5 HX5
    go_upto_region 7 with fail
    first
      | (go_region_held3 (fun w' => w'.cell? ⟨w.heap.size, 0, none⟩ = some (.bool false) ∧ w'.cell? ⟨w.heap.size, 1, none⟩ = some a ∧ w'.cell? ⟨w.heap.size, 2, none⟩ = some (.int .i64 e1) ∧ w'.cell? ⟨w.heap.size + 1, 0, none⟩ = some (.bool true) ∧ w'.cell? ⟨w.heap.size + 1, 1, none⟩ = some b ∧ w'.cell? ⟨w.heap.size + 1, 2, none⟩ = some (.int .i64 e2))
          ((first | (refine ks6 u0 u1 u2 t0 t1 t2 ?_; first | assumption | exact Below.drew hc4) | exact ks6_set (by omega) (by omega) (ks6_set (by omega) (by omega) (ks6_set (by omega) (by omega) (ks6 u0 u1 u2 t0 t1 t2 (by assumption))))))
          (first
            | (go_at_call 31; refine (spSub _ _ Q P _ (HS5.out.below (Below.drew hc4)) (HR5.out.below (Below.drew hc4)) hQ (by omega)).mono ?_; rintro _ w6 ⟨q, rfl, hq, hb6⟩; have hSq := hq.isS; have hb6 : Below w5.heap.size w5 w6 := bthen (Below.drew hc4) hb6; have hbX := bthen HX4.out hb6; have hvr := keep_row hbX HR3.out; obtain ⟨hv0, hv1, hv2, hf0, hf1, hf2⟩ := row3 hvr)))
      | fail
    all_goals go_wp2
    all_goals
      obtain ⟨hx0, hx1, hx2, -, -, -⟩ := row3 (row3_set (x := .bool true) (y := q) (z := .int .i64 e) hvr)
      have hn := natv_dyad (x := .bool true) (y := q) (z := .int .i64 e) IsS.nil hq hvr
      have hbY := bset (i := 2) (u := .int .i64 e) (bset (i := 1) (u := q) (bset (i := 0) (u := .bool true) (HW.out.trans (hbX.mono hXs)) (Nat.le_add_right w.heap.size 2)) (Nat.le_add_right w.heap.size 2)) (Nat.le_add_right w.heap.size 2)
      refine bodyPost_ret (v := .agg #[.bool true, q, .int .i64 e]) ?_ rfl ⟨_, rfl, true, _, ⟨_, rfl, hn⟩, ?_, hbY⟩
      · simp [results, Tryz.results13, go_sem, hx0, hx1, hx2]
      · simp only [sI, if_true, if_false, Bool.false_eq_true]; omega
set_option maxRecDepth 100000 in
set_option maxHeartbeats 3200000 in
theorem dSum_tf (a b : Value) (e1 e2 e : Int) (x y A B : Nat) (w : World) (ha : NatV w a x) (hb : NatV w b y) (hm : min e1 e2 = e) (hs1 : e1 - e = (A : Int)) (hs2 : e2 - e = (B : Int)) (_g1 : -2000000000 ≤ e1) (_g2 : e1 ≤ 2000000000) (_g3 : -2000000000 ≤ e2) (_g4 : e2 ≤ 2000000000) (_g5 : -2000000000 ≤ e)
    (hx : nl x ≤ 1000000000) (hy : nl y ≤ 1000000000) (hA : A ≤ 4000000000) (hB : B ≤ 4000000000) (hP : nl (x * 2 ^ A) ≤ 1000000000) (hQ : nl (y * 2 ^ B) ≤ 1000000000) :
    Calls Tryz.prog 13 #[.agg #[.bool true, a, .int .i64 e1], .agg #[.bool false, b, .int .i64 e2]] w fun e' w' => ∃ r, e' = .returned r ∧ SumP (x * 2 ^ A) (y * 2 ^ B) true false e w r w' := by
  have hSa := ha.isS
  have hSb := hb.isS
  have hab := (((Below.refl w.heap.size w).alloc (Nat.le_refl _) (.cells #[.bool true, a, .int .i64 e1] 36)).alloc (Nat.le_trans (Nat.le_refl _) (fbone (W := w) (.cells #[.bool true, a, .int .i64 e1] 36)).size) (.cells #[.bool false, b, .int .i64 e2] 36))
  have hac := hab.alloc hab.size (.cells #[.bool false, .slice none 0 0, .int .i64 0] 36)
  obtain ⟨X, hX⟩ : ∃ X, X = ((w.alloc (.cells #[.bool true, a, .int .i64 e1] 36)).alloc (.cells #[.bool false, b, .int .i64 e2] 36)).alloc (.cells #[.bool false, .slice none 0 0, .int .i64 0] 36) := ⟨_, rfl⟩
  have hr1 : X.heap[w.heap.size]? = some (.cells #[.bool true, a, .int .i64 e1] 36 (0, 0)) := by
    rw [hX]; exact keep_row (fbone _) (keep_row (fbone _) (box_row (Below.refl _ _)))
  have hr2 : X.heap[w.heap.size + 1]? = some (.cells #[.bool false, b, .int .i64 e2] 36 (0, 0)) := by
    rw [hX]
    have := keep_row (fbone (W := (w.alloc (.cells #[.bool true, a, .int .i64 e1] 36)).alloc (.cells #[.bool false, b, .int .i64 e2] 36)) (.cells #[.bool false, .slice none 0 0, .int .i64 0] 36)) (box_row (Below.refl _ ((w.alloc (.cells #[.bool true, a, .int .i64 e1] 36)).alloc (.cells #[.bool false, b, .int .i64 e2] 36))))
    simpa using this
  have hr3 : X.heap[w.heap.size + 2]? = some (.cells #[.bool false, .slice none 0 0, .int .i64 0] 36 (0, 0)) := by
    rw [hX]
    have := box_row (Below.refl _ (((w.alloc (.cells #[.bool true, a, .int .i64 e1] 36)).alloc (.cells #[.bool false, b, .int .i64 e2] 36)).alloc (.cells #[.bool false, .slice none 0 0, .int .i64 0] 36)))
    simpa using this
  rw [← hX] at hac
  obtain ⟨x0, x1, x2, -, -, -⟩ := row3 hr1
  obtain ⟨y0, y1, y2, -, -, -⟩ := row3 hr2
  obtain ⟨P, hPP⟩ : ∃ P, P = x * 2 ^ A := ⟨_, rfl⟩
  obtain ⟨Q, hQQ⟩ : ∃ Q, Q = y * 2 ^ B := ⟨_, rfl⟩
  rw [← hPP] at hP ⊢
  rw [← hQQ] at hQ ⊢
  have HPP := Lib.hid hPP
  have HQQ := Lib.hid hQQ
  have HR1 := Lib.hid hr1
  have HR2 := Lib.hid hr2
  have HR3 := Lib.hid hr3
  have HW := Lib.hid hac
  have NA := Lib.hid (ha.below hac)
  have NB := Lib.hid (hb.below hac)
  have hXs := hac.size
  have hcc := Below.refl X.heap.size X
  have hwA := wrapI A hA
  have hwB := wrapI B hB
  clear hr1 hr2 hr3 hac hab ha hb hPP hQQ
  go_enter Tryz.func13, Tryz.ntmps13
  go_upto_region 1 with fail
  rw [← hX]
  clear hX
  go_upto_region 2 with fail
  refine wp_region_held_drew (S := fun w' => w'.cell? ⟨w.heap.size, 0, none⟩ = some (.bool true) ∧ w'.cell? ⟨w.heap.size, 1, none⟩ = some a ∧ w'.cell? ⟨w.heap.size, 2, none⟩ = some (.int .i64 e1) ∧ w'.cell? ⟨w.heap.size + 1, 0, none⟩ = some (.bool false) ∧ w'.cell? ⟨w.heap.size + 1, 1, none⟩ = some b ∧ w'.cell? ⟨w.heap.size + 1, 2, none⟩ = some (.int .i64 e2)) (by kernel_rfl) (ks6 x0 x1 x2 y0 y1 y2 (Below.drew hcc)) (fun hHeld => ?_)
  refine wpAnyH_takeD (i := 0) (dd := some 13) (v := .pointer (some ⟨w.heap.size, 1, none⟩)) (by kernel_rfl) (by kernel_rfl) (by kernel_rfl) (by kernel_rfl) (fun _ _ _ h => h) (fun oi h => ?_) (by assumption) ?_
  · cases h; exact Or.inl ⟨by rfl, by intro w hSw; go_simp⟩
  try simp only [Act.put, List.setIfInBounds_toArray, List.set_cons_zero, List.set_cons_succ]
  refine wpAnyH_takeD (i := 1) (dd := some 14) (v := a) (by kernel_rfl) (by kernel_rfl) (by kernel_rfl) (by kernel_rfl) (fun _ _ _ h => h) (fun oi h => ?_) (by assumption) ?_
  · cases h; exact Or.inl ⟨by rfl, by intro w hSw; go_simp⟩
  try simp only [Act.put, List.setIfInBounds_toArray, List.set_cons_zero, List.set_cons_succ]
  refine wpAnyH_takeD (i := 2) (dd := some 15) (v := .pointer (some ⟨w.heap.size, 2, none⟩)) (by kernel_rfl) (by kernel_rfl) (by kernel_rfl) (by kernel_rfl) (fun _ _ _ h => h) (fun oi h => ?_) (by assumption) ?_
  · cases h; exact Or.inl ⟨by rfl, by intro w hSw; go_simp⟩
  try simp only [Act.put, List.setIfInBounds_toArray, List.set_cons_zero, List.set_cons_succ]
  refine wpAnyH_takeD (i := 3) (dd := some 16) (v := .int .i64 e1) (by kernel_rfl) (by kernel_rfl) (by kernel_rfl) (by kernel_rfl) (fun _ _ _ h => h) (fun oi h => ?_) (by assumption) ?_
  · cases h; exact Or.inl ⟨by rfl, by intro w hSw; go_simp⟩
  try simp only [Act.put, List.setIfInBounds_toArray, List.set_cons_zero, List.set_cons_succ]
  refine wpAnyH_takeD (i := 4) (dd := some 17) (v := .int .i64 e) (by kernel_rfl) (by kernel_rfl) (by kernel_rfl) (by kernel_rfl) (fun _ _ _ h => h) (fun oi h => ?_) (by assumption) ?_
  · cases h; exact Or.inl ⟨by rfl, by intro w hSw; go_simp⟩
  try simp only [Act.put, List.setIfInBounds_toArray, List.set_cons_zero, List.set_cons_succ]
  refine wpAnyH_takeD (i := 5) (dd := some 18) (v := .int .i64 (A : Int)) (by kernel_rfl) (by kernel_rfl) (by kernel_rfl) (by kernel_rfl) (fun _ _ _ h => h) (fun oi h => ?_) (by assumption) ?_
  · cases h; exact Or.inl ⟨by rfl, by intro w hSw; go_simp⟩
  try simp only [Act.put, List.setIfInBounds_toArray, List.set_cons_zero, List.set_cons_succ]
  refine wpAnyH_takeD (i := 7) (dd := some 20) (v := .pointer (some ⟨w.heap.size + 1, 1, none⟩)) (by kernel_rfl) (by kernel_rfl) (by kernel_rfl) (by kernel_rfl) (fun _ _ _ h => h) (fun oi h => ?_) (by assumption) ?_
  · cases h; exact Or.inl ⟨by rfl, by intro w hSw; go_simp⟩
  try simp only [Act.put, List.setIfInBounds_toArray, List.set_cons_zero, List.set_cons_succ]
  refine wpAnyH_takeD (i := 8) (dd := some 21) (v := b) (by kernel_rfl) (by kernel_rfl) (by kernel_rfl) (by kernel_rfl) (fun _ _ _ h => h) (fun oi h => ?_) (by assumption) ?_
  · cases h; exact Or.inl ⟨by rfl, by intro w hSw; go_simp⟩
  try simp only [Act.put, List.setIfInBounds_toArray, List.set_cons_zero, List.set_cons_succ]
  refine wpAnyH_takeD (i := 9) (dd := some 22) (v := .pointer (some ⟨w.heap.size + 1, 2, none⟩)) (by kernel_rfl) (by kernel_rfl) (by kernel_rfl) (by kernel_rfl) (fun _ _ _ h => h) (fun oi h => ?_) (by assumption) ?_
  · cases h; exact Or.inl ⟨by rfl, by intro w hSw; go_simp⟩
  try simp only [Act.put, List.setIfInBounds_toArray, List.set_cons_zero, List.set_cons_succ]
  refine wpAnyH_takeD (i := 10) (dd := some 23) (v := .int .i64 e2) (by kernel_rfl) (by kernel_rfl) (by kernel_rfl) (by kernel_rfl) (fun _ _ _ h => h) (fun oi h => ?_) (by assumption) ?_
  · cases h; exact Or.inl ⟨by rfl, by intro w hSw; go_simp⟩
  try simp only [Act.put, List.setIfInBounds_toArray, List.set_cons_zero, List.set_cons_succ]
  refine wpAnyH_takeD (i := 11) (dd := some 24) (v := .int .i64 e) (by kernel_rfl) (by kernel_rfl) (by kernel_rfl) (by kernel_rfl) (fun _ _ _ h => h) (fun oi h => ?_) (by assumption) ?_
  · cases h; exact Or.inl ⟨by rfl, by intro w hSw; go_simp⟩
  try simp only [Act.put, List.setIfInBounds_toArray, List.set_cons_zero, List.set_cons_succ]
  refine wpAnyH_takeD (i := 12) (dd := some 25) (v := .int .i64 (B : Int)) (by kernel_rfl) (by kernel_rfl) (by kernel_rfl) (by kernel_rfl) (fun _ _ _ h => h) (fun oi h => ?_) (by assumption) ?_
  · cases h; exact Or.inl ⟨by rfl, by intro w hSw; go_simp⟩
  try simp only [Act.put, List.setIfInBounds_toArray, List.set_cons_zero, List.set_cons_succ]
  refine wpAnyH_ready (rs := [6]) (by kernel_rfl) (by simp) (AllReadyH.cons rfl (fun K hK => ?_) AllReadyH.nil)
  go_simp
  go_at_call 28
  refine (spShl a x A _ (NA.out.below (Below.drew hcc)) hx (by omega)).mono ?_
  rintro _ w3 ⟨r, rfl, hr, hb3⟩
  have hSr := hr.isS
  rw [← HPP.out] at hr
  have hb3 : Below X.heap.size X w3 := bthen (Below.drew hcc) hb3
  refine hK.out _ _ (ks6 x0 x1 x2 y0 y1 y2 hb3) (fun hHeld => ?_)
  clear hK K
  try simp only [Act.put, List.setIfInBounds_toArray, List.set_cons_zero, List.set_cons_succ]
  refine wpAnyH_ready (rs := [13]) (by kernel_rfl) (by simp) (AllReadyH.cons rfl (fun K hK => ?_) AllReadyH.nil)
  go_simp
  go_at_call 28
  refine (spShl b y B _ (NB.out.below hb3) hy (by omega)).mono ?_
  rintro _ w4 ⟨s, rfl, hs, hb4⟩
  have hSs := hs.isS
  rw [← HQQ.out] at hs
  have hb4' : Below X.heap.size X w4 := bthen hb3 hb4
  have HS4 := Lib.hid hs
  have HR4 := Lib.hid (hr.below hb4)
  clear hs hr
  refine hK.out _ _ (ks6 x0 x1 x2 y0 y1 y2 hb4') (fun hHeld => ?_)
  clear hK K
  try simp only [Act.put, List.setIfInBounds_toArray, List.set_cons_zero, List.set_cons_succ]
  refine wpAnyH_takeD (i := 14) (dd := some 6) (v := r) (by kernel_rfl) (by kernel_rfl) (by kernel_rfl) (by kernel_rfl) (fun _ _ _ h => h) (fun oi h => ?_) (by assumption) ?_
  · cases h; exact Or.inl ⟨by rfl, by intro w hSw; go_simp⟩
  try simp only [Act.put, List.setIfInBounds_toArray, List.set_cons_zero, List.set_cons_succ]
  refine wpAnyH_takeD (i := 15) (dd := some 7) (v := s) (by kernel_rfl) (by kernel_rfl) (by kernel_rfl) (by kernel_rfl) (fun _ _ _ h => h) (fun oi h => ?_) (by assumption) ?_
  · cases h; exact Or.inl ⟨by rfl, by intro w hSw; go_simp⟩
  try simp only [Act.put, List.setIfInBounds_toArray, List.set_cons_zero, List.set_cons_succ]
  refine wpAnyH_done (by kernel_rfl) ?_ _
  have HX4 := Lib.hid hb4'
  obtain ⟨u0, u1, u2, -, -, -⟩ := row3 (keep_row hb4' HR1.out)
  obtain ⟨t0, t1, t2, -, -, -⟩ := row3 (keep_row hb4' HR2.out)
  have hc4 := Below.refl w4.heap.size w4
  have htrue := Lib.hid (show w.heap.size + 2 ≠ w.heap.size by omega)
  have hfalse := Lib.hid (show w.heap.size + 2 ≠ w.heap.size + 1 by omega)
  clear x0 x1 x2 y0 y1 y2 hb3 hb4 hb4'
  by_cases hc : Q ≤ P
  · have tc : decide (0 ≤ cmpN P Q) = true := decide_eq_true ((cmpN_ge P Q).2 hc)
    go_wp2_with fail
    refine (spCmp _ _ P Q w4 HR4.out HS4.out hP hQ).mono ?_
    rintro _ w5 ⟨rfl, hb5⟩
    have HR5 := Lib.hid (HR4.out.below hb5)
    have HS5 := Lib.hid (HS4.out.below hb5)
    have HX5 := Lib.hid (bthen HX4.out hb5)
    obtain ⟨cm, hcm⟩ : ∃ cm, cm = cmpN P Q := ⟨_, rfl⟩
    rw [← hcm] at tc ⊢
    clear HX4 HR4 HS4 hc4 u0 u1 u2 t0 t1 t2 hcm
    have HX4 := HX5
    obtain ⟨u0, u1, u2, -, -, -⟩ := row3 (keep_row HX4.out HR1.out)
    obtain ⟨t0, t1, t2, -, -, -⟩ := row3 (keep_row HX4.out HR2.out)
    have hc4 := Below.refl w5.heap.size w5
    clear hb5 HX5
    go_upto_region 6 with fail
    first
      | (go_region_held3 (fun w' => w'.cell? ⟨w.heap.size, 0, none⟩ = some (.bool true) ∧ w'.cell? ⟨w.heap.size, 1, none⟩ = some a ∧ w'.cell? ⟨w.heap.size, 2, none⟩ = some (.int .i64 e1) ∧ w'.cell? ⟨w.heap.size + 1, 0, none⟩ = some (.bool false) ∧ w'.cell? ⟨w.heap.size + 1, 1, none⟩ = some b ∧ w'.cell? ⟨w.heap.size + 1, 2, none⟩ = some (.int .i64 e2))
          ((first | (refine ks6 u0 u1 u2 t0 t1 t2 ?_; first | assumption | exact Below.drew hc4) | exact ks6_set (by omega) (by omega) (ks6_set (by omega) (by omega) (ks6_set (by omega) (by omega) (ks6 u0 u1 u2 t0 t1 t2 (by assumption))))))
          (first
            | (go_at_call 31; refine (spSub _ _ P Q _ (HR5.out.below (Below.drew hc4)) (HS5.out.below (Below.drew hc4)) hP hc).mono ?_; rintro _ w6 ⟨q, rfl, hq, hb6⟩; have hSq := hq.isS; have hb6 : Below w5.heap.size w5 w6 := bthen (Below.drew hc4) hb6; have hbX := bthen HX4.out hb6; have hvr := keep_row hbX HR3.out; obtain ⟨hv0, hv1, hv2, hf0, hf1, hf2⟩ := row3 hvr)))
      | fail
    all_goals go_wp2
    all_goals
      obtain ⟨hx0, hx1, hx2, -, -, -⟩ := row3 (row3_set (x := .bool true) (y := q) (z := .int .i64 e) hvr)
      have hn := natv_dyad (x := .bool true) (y := q) (z := .int .i64 e) IsS.nil hq hvr
      have hbY := bset (i := 2) (u := .int .i64 e) (bset (i := 1) (u := q) (bset (i := 0) (u := .bool true) (HW.out.trans (hbX.mono hXs)) (Nat.le_add_right w.heap.size 2)) (Nat.le_add_right w.heap.size 2)) (Nat.le_add_right w.heap.size 2)
      refine bodyPost_ret (v := .agg #[.bool true, q, .int .i64 e]) ?_ rfl ⟨_, rfl, true, _, ⟨_, rfl, hn⟩, ?_, hbY⟩
      · simp [results, Tryz.results13, go_sem, hx0, hx1, hx2]
      · simp only [sI, if_true, if_false, Bool.false_eq_true]; omega
  · have tc : decide (0 ≤ cmpN P Q) = false := decide_eq_false (fun h => hc ((cmpN_ge P Q).1 h))
    go_wp2_with fail
    refine (spCmp _ _ P Q w4 HR4.out HS4.out hP hQ).mono ?_
    rintro _ w5 ⟨rfl, hb5⟩
    have HR5 := Lib.hid (HR4.out.below hb5)
    have HS5 := Lib.hid (HS4.out.below hb5)
    have HX5 := Lib.hid (bthen HX4.out hb5)
    obtain ⟨cm, hcm⟩ : ∃ cm, cm = cmpN P Q := ⟨_, rfl⟩
    rw [← hcm] at tc ⊢
    clear HX4 HR4 HS4 hc4 u0 u1 u2 t0 t1 t2 hcm
    have HX4 := HX5
    obtain ⟨u0, u1, u2, -, -, -⟩ := row3 (keep_row HX4.out HR1.out)
    obtain ⟨t0, t1, t2, -, -, -⟩ := row3 (keep_row HX4.out HR2.out)
    have hc4 := Below.refl w5.heap.size w5
    clear hb5 HX5
    go_upto_region 7 with fail
    first
      | (go_region_held3 (fun w' => w'.cell? ⟨w.heap.size, 0, none⟩ = some (.bool true) ∧ w'.cell? ⟨w.heap.size, 1, none⟩ = some a ∧ w'.cell? ⟨w.heap.size, 2, none⟩ = some (.int .i64 e1) ∧ w'.cell? ⟨w.heap.size + 1, 0, none⟩ = some (.bool false) ∧ w'.cell? ⟨w.heap.size + 1, 1, none⟩ = some b ∧ w'.cell? ⟨w.heap.size + 1, 2, none⟩ = some (.int .i64 e2))
          ((first | (refine ks6 u0 u1 u2 t0 t1 t2 ?_; first | assumption | exact Below.drew hc4) | exact ks6_set (by omega) (by omega) (ks6_set (by omega) (by omega) (ks6_set (by omega) (by omega) (ks6 u0 u1 u2 t0 t1 t2 (by assumption))))))
          (first
            | (go_at_call 31; refine (spSub _ _ Q P _ (HS5.out.below (Below.drew hc4)) (HR5.out.below (Below.drew hc4)) hQ (by omega)).mono ?_; rintro _ w6 ⟨q, rfl, hq, hb6⟩; have hSq := hq.isS; have hb6 : Below w5.heap.size w5 w6 := bthen (Below.drew hc4) hb6; have hbX := bthen HX4.out hb6; have hvr := keep_row hbX HR3.out; obtain ⟨hv0, hv1, hv2, hf0, hf1, hf2⟩ := row3 hvr)))
      | fail
    all_goals go_wp2
    all_goals
      obtain ⟨hx0, hx1, hx2, -, -, -⟩ := row3 (row3_set (x := .bool false) (y := q) (z := .int .i64 e) hvr)
      have hn := natv_dyad (x := .bool false) (y := q) (z := .int .i64 e) IsS.nil hq hvr
      have hbY := bset (i := 2) (u := .int .i64 e) (bset (i := 1) (u := q) (bset (i := 0) (u := .bool false) (HW.out.trans (hbX.mono hXs)) (Nat.le_add_right w.heap.size 2)) (Nat.le_add_right w.heap.size 2)) (Nat.le_add_right w.heap.size 2)
      refine bodyPost_ret (v := .agg #[.bool false, q, .int .i64 e]) ?_ rfl ⟨_, rfl, false, _, ⟨_, rfl, hn⟩, ?_, hbY⟩
      · simp [results, Tryz.results13, go_sem, hx0, hx1, hx2]
      · simp only [sI, if_true, if_false, Bool.false_eq_true]; omega
set_option maxRecDepth 100000 in
set_option maxHeartbeats 3200000 in
theorem dSum_tt (a b : Value) (e1 e2 e : Int) (x y A B : Nat) (w : World) (ha : NatV w a x) (hb : NatV w b y) (hm : min e1 e2 = e) (hs1 : e1 - e = (A : Int)) (hs2 : e2 - e = (B : Int)) (_g1 : -2000000000 ≤ e1) (_g2 : e1 ≤ 2000000000) (_g3 : -2000000000 ≤ e2) (_g4 : e2 ≤ 2000000000) (_g5 : -2000000000 ≤ e)
    (hx : nl x ≤ 1000000000) (hy : nl y ≤ 1000000000) (hA : A ≤ 4000000000) (hB : B ≤ 4000000000) (hP : nl (x * 2 ^ A) ≤ 1000000000) (hQ : nl (y * 2 ^ B) ≤ 1000000000) :
    Calls Tryz.prog 13 #[.agg #[.bool true, a, .int .i64 e1], .agg #[.bool true, b, .int .i64 e2]] w fun e' w' => ∃ r, e' = .returned r ∧ SumP (x * 2 ^ A) (y * 2 ^ B) true true e w r w' := by
  have hSa := ha.isS
  have hSb := hb.isS
  have hab := (((Below.refl w.heap.size w).alloc (Nat.le_refl _) (.cells #[.bool true, a, .int .i64 e1] 36)).alloc (Nat.le_trans (Nat.le_refl _) (fbone (W := w) (.cells #[.bool true, a, .int .i64 e1] 36)).size) (.cells #[.bool true, b, .int .i64 e2] 36))
  have hac := hab.alloc hab.size (.cells #[.bool false, .slice none 0 0, .int .i64 0] 36)
  obtain ⟨X, hX⟩ : ∃ X, X = ((w.alloc (.cells #[.bool true, a, .int .i64 e1] 36)).alloc (.cells #[.bool true, b, .int .i64 e2] 36)).alloc (.cells #[.bool false, .slice none 0 0, .int .i64 0] 36) := ⟨_, rfl⟩
  have hr1 : X.heap[w.heap.size]? = some (.cells #[.bool true, a, .int .i64 e1] 36 (0, 0)) := by
    rw [hX]; exact keep_row (fbone _) (keep_row (fbone _) (box_row (Below.refl _ _)))
  have hr2 : X.heap[w.heap.size + 1]? = some (.cells #[.bool true, b, .int .i64 e2] 36 (0, 0)) := by
    rw [hX]
    have := keep_row (fbone (W := (w.alloc (.cells #[.bool true, a, .int .i64 e1] 36)).alloc (.cells #[.bool true, b, .int .i64 e2] 36)) (.cells #[.bool false, .slice none 0 0, .int .i64 0] 36)) (box_row (Below.refl _ ((w.alloc (.cells #[.bool true, a, .int .i64 e1] 36)).alloc (.cells #[.bool true, b, .int .i64 e2] 36))))
    simpa using this
  have hr3 : X.heap[w.heap.size + 2]? = some (.cells #[.bool false, .slice none 0 0, .int .i64 0] 36 (0, 0)) := by
    rw [hX]
    have := box_row (Below.refl _ (((w.alloc (.cells #[.bool true, a, .int .i64 e1] 36)).alloc (.cells #[.bool true, b, .int .i64 e2] 36)).alloc (.cells #[.bool false, .slice none 0 0, .int .i64 0] 36)))
    simpa using this
  rw [← hX] at hac
  obtain ⟨x0, x1, x2, -, -, -⟩ := row3 hr1
  obtain ⟨y0, y1, y2, -, -, -⟩ := row3 hr2
  obtain ⟨P, hPP⟩ : ∃ P, P = x * 2 ^ A := ⟨_, rfl⟩
  obtain ⟨Q, hQQ⟩ : ∃ Q, Q = y * 2 ^ B := ⟨_, rfl⟩
  rw [← hPP] at hP ⊢
  rw [← hQQ] at hQ ⊢
  have HPP := Lib.hid hPP
  have HQQ := Lib.hid hQQ
  have HR1 := Lib.hid hr1
  have HR2 := Lib.hid hr2
  have HR3 := Lib.hid hr3
  have HW := Lib.hid hac
  have NA := Lib.hid (ha.below hac)
  have NB := Lib.hid (hb.below hac)
  have hXs := hac.size
  have hcc := Below.refl X.heap.size X
  have hwA := wrapI A hA
  have hwB := wrapI B hB
  clear hr1 hr2 hr3 hac hab ha hb hPP hQQ
  go_enter Tryz.func13, Tryz.ntmps13
  go_upto_region 1 with fail
  rw [← hX]
  clear hX
  go_upto_region 2 with fail
  refine wp_region_held_drew (S := fun w' => w'.cell? ⟨w.heap.size, 0, none⟩ = some (.bool true) ∧ w'.cell? ⟨w.heap.size, 1, none⟩ = some a ∧ w'.cell? ⟨w.heap.size, 2, none⟩ = some (.int .i64 e1) ∧ w'.cell? ⟨w.heap.size + 1, 0, none⟩ = some (.bool true) ∧ w'.cell? ⟨w.heap.size + 1, 1, none⟩ = some b ∧ w'.cell? ⟨w.heap.size + 1, 2, none⟩ = some (.int .i64 e2)) (by kernel_rfl) (ks6 x0 x1 x2 y0 y1 y2 (Below.drew hcc)) (fun hHeld => ?_)
  refine wpAnyH_takeD (i := 0) (dd := some 13) (v := .pointer (some ⟨w.heap.size, 1, none⟩)) (by kernel_rfl) (by kernel_rfl) (by kernel_rfl) (by kernel_rfl) (fun _ _ _ h => h) (fun oi h => ?_) (by assumption) ?_
  · cases h; exact Or.inl ⟨by rfl, by intro w hSw; go_simp⟩
  try simp only [Act.put, List.setIfInBounds_toArray, List.set_cons_zero, List.set_cons_succ]
  refine wpAnyH_takeD (i := 1) (dd := some 14) (v := a) (by kernel_rfl) (by kernel_rfl) (by kernel_rfl) (by kernel_rfl) (fun _ _ _ h => h) (fun oi h => ?_) (by assumption) ?_
  · cases h; exact Or.inl ⟨by rfl, by intro w hSw; go_simp⟩
  try simp only [Act.put, List.setIfInBounds_toArray, List.set_cons_zero, List.set_cons_succ]
  refine wpAnyH_takeD (i := 2) (dd := some 15) (v := .pointer (some ⟨w.heap.size, 2, none⟩)) (by kernel_rfl) (by kernel_rfl) (by kernel_rfl) (by kernel_rfl) (fun _ _ _ h => h) (fun oi h => ?_) (by assumption) ?_
  · cases h; exact Or.inl ⟨by rfl, by intro w hSw; go_simp⟩
  try simp only [Act.put, List.setIfInBounds_toArray, List.set_cons_zero, List.set_cons_succ]
  refine wpAnyH_takeD (i := 3) (dd := some 16) (v := .int .i64 e1) (by kernel_rfl) (by kernel_rfl) (by kernel_rfl) (by kernel_rfl) (fun _ _ _ h => h) (fun oi h => ?_) (by assumption) ?_
  · cases h; exact Or.inl ⟨by rfl, by intro w hSw; go_simp⟩
  try simp only [Act.put, List.setIfInBounds_toArray, List.set_cons_zero, List.set_cons_succ]
  refine wpAnyH_takeD (i := 4) (dd := some 17) (v := .int .i64 e) (by kernel_rfl) (by kernel_rfl) (by kernel_rfl) (by kernel_rfl) (fun _ _ _ h => h) (fun oi h => ?_) (by assumption) ?_
  · cases h; exact Or.inl ⟨by rfl, by intro w hSw; go_simp⟩
  try simp only [Act.put, List.setIfInBounds_toArray, List.set_cons_zero, List.set_cons_succ]
  refine wpAnyH_takeD (i := 5) (dd := some 18) (v := .int .i64 (A : Int)) (by kernel_rfl) (by kernel_rfl) (by kernel_rfl) (by kernel_rfl) (fun _ _ _ h => h) (fun oi h => ?_) (by assumption) ?_
  · cases h; exact Or.inl ⟨by rfl, by intro w hSw; go_simp⟩
  try simp only [Act.put, List.setIfInBounds_toArray, List.set_cons_zero, List.set_cons_succ]
  refine wpAnyH_takeD (i := 7) (dd := some 20) (v := .pointer (some ⟨w.heap.size + 1, 1, none⟩)) (by kernel_rfl) (by kernel_rfl) (by kernel_rfl) (by kernel_rfl) (fun _ _ _ h => h) (fun oi h => ?_) (by assumption) ?_
  · cases h; exact Or.inl ⟨by rfl, by intro w hSw; go_simp⟩
  try simp only [Act.put, List.setIfInBounds_toArray, List.set_cons_zero, List.set_cons_succ]
  refine wpAnyH_takeD (i := 8) (dd := some 21) (v := b) (by kernel_rfl) (by kernel_rfl) (by kernel_rfl) (by kernel_rfl) (fun _ _ _ h => h) (fun oi h => ?_) (by assumption) ?_
  · cases h; exact Or.inl ⟨by rfl, by intro w hSw; go_simp⟩
  try simp only [Act.put, List.setIfInBounds_toArray, List.set_cons_zero, List.set_cons_succ]
  refine wpAnyH_takeD (i := 9) (dd := some 22) (v := .pointer (some ⟨w.heap.size + 1, 2, none⟩)) (by kernel_rfl) (by kernel_rfl) (by kernel_rfl) (by kernel_rfl) (fun _ _ _ h => h) (fun oi h => ?_) (by assumption) ?_
  · cases h; exact Or.inl ⟨by rfl, by intro w hSw; go_simp⟩
  try simp only [Act.put, List.setIfInBounds_toArray, List.set_cons_zero, List.set_cons_succ]
  refine wpAnyH_takeD (i := 10) (dd := some 23) (v := .int .i64 e2) (by kernel_rfl) (by kernel_rfl) (by kernel_rfl) (by kernel_rfl) (fun _ _ _ h => h) (fun oi h => ?_) (by assumption) ?_
  · cases h; exact Or.inl ⟨by rfl, by intro w hSw; go_simp⟩
  try simp only [Act.put, List.setIfInBounds_toArray, List.set_cons_zero, List.set_cons_succ]
  refine wpAnyH_takeD (i := 11) (dd := some 24) (v := .int .i64 e) (by kernel_rfl) (by kernel_rfl) (by kernel_rfl) (by kernel_rfl) (fun _ _ _ h => h) (fun oi h => ?_) (by assumption) ?_
  · cases h; exact Or.inl ⟨by rfl, by intro w hSw; go_simp⟩
  try simp only [Act.put, List.setIfInBounds_toArray, List.set_cons_zero, List.set_cons_succ]
  refine wpAnyH_takeD (i := 12) (dd := some 25) (v := .int .i64 (B : Int)) (by kernel_rfl) (by kernel_rfl) (by kernel_rfl) (by kernel_rfl) (fun _ _ _ h => h) (fun oi h => ?_) (by assumption) ?_
  · cases h; exact Or.inl ⟨by rfl, by intro w hSw; go_simp⟩
  try simp only [Act.put, List.setIfInBounds_toArray, List.set_cons_zero, List.set_cons_succ]
  refine wpAnyH_ready (rs := [6]) (by kernel_rfl) (by simp) (AllReadyH.cons rfl (fun K hK => ?_) AllReadyH.nil)
  go_simp
  go_at_call 28
  refine (spShl a x A _ (NA.out.below (Below.drew hcc)) hx (by omega)).mono ?_
  rintro _ w3 ⟨r, rfl, hr, hb3⟩
  have hSr := hr.isS
  rw [← HPP.out] at hr
  have hb3 : Below X.heap.size X w3 := bthen (Below.drew hcc) hb3
  refine hK.out _ _ (ks6 x0 x1 x2 y0 y1 y2 hb3) (fun hHeld => ?_)
  clear hK K
  try simp only [Act.put, List.setIfInBounds_toArray, List.set_cons_zero, List.set_cons_succ]
  refine wpAnyH_ready (rs := [13]) (by kernel_rfl) (by simp) (AllReadyH.cons rfl (fun K hK => ?_) AllReadyH.nil)
  go_simp
  go_at_call 28
  refine (spShl b y B _ (NB.out.below hb3) hy (by omega)).mono ?_
  rintro _ w4 ⟨s, rfl, hs, hb4⟩
  have hSs := hs.isS
  rw [← HQQ.out] at hs
  have hb4' : Below X.heap.size X w4 := bthen hb3 hb4
  have HS4 := Lib.hid hs
  have HR4 := Lib.hid (hr.below hb4)
  clear hs hr
  refine hK.out _ _ (ks6 x0 x1 x2 y0 y1 y2 hb4') (fun hHeld => ?_)
  clear hK K
  try simp only [Act.put, List.setIfInBounds_toArray, List.set_cons_zero, List.set_cons_succ]
  refine wpAnyH_takeD (i := 14) (dd := some 6) (v := r) (by kernel_rfl) (by kernel_rfl) (by kernel_rfl) (by kernel_rfl) (fun _ _ _ h => h) (fun oi h => ?_) (by assumption) ?_
  · cases h; exact Or.inl ⟨by rfl, by intro w hSw; go_simp⟩
  try simp only [Act.put, List.setIfInBounds_toArray, List.set_cons_zero, List.set_cons_succ]
  refine wpAnyH_takeD (i := 15) (dd := some 7) (v := s) (by kernel_rfl) (by kernel_rfl) (by kernel_rfl) (by kernel_rfl) (fun _ _ _ h => h) (fun oi h => ?_) (by assumption) ?_
  · cases h; exact Or.inl ⟨by rfl, by intro w hSw; go_simp⟩
  try simp only [Act.put, List.setIfInBounds_toArray, List.set_cons_zero, List.set_cons_succ]
  refine wpAnyH_done (by kernel_rfl) ?_ _
  have HX4 := Lib.hid hb4'
  obtain ⟨u0, u1, u2, -, -, -⟩ := row3 (keep_row hb4' HR1.out)
  obtain ⟨t0, t1, t2, -, -, -⟩ := row3 (keep_row hb4' HR2.out)
  have hc4 := Below.refl w4.heap.size w4
  have htrue := Lib.hid (show w.heap.size + 2 ≠ w.heap.size by omega)
  have htrue := Lib.hid (show w.heap.size + 2 ≠ w.heap.size + 1 by omega)
  clear x0 x1 x2 y0 y1 y2 hb3 hb4 hb4'
  go_upto_region 4 with fail
  first
    | (go_region_held3 (fun w' => w'.cell? ⟨w.heap.size, 0, none⟩ = some (.bool true) ∧ w'.cell? ⟨w.heap.size, 1, none⟩ = some a ∧ w'.cell? ⟨w.heap.size, 2, none⟩ = some (.int .i64 e1) ∧ w'.cell? ⟨w.heap.size + 1, 0, none⟩ = some (.bool true) ∧ w'.cell? ⟨w.heap.size + 1, 1, none⟩ = some b ∧ w'.cell? ⟨w.heap.size + 1, 2, none⟩ = some (.int .i64 e2))
        ((first | (refine ks6 u0 u1 u2 t0 t1 t2 ?_; first | assumption | exact Below.drew hc4) | exact ks6_set (by omega) (by omega) (ks6_set (by omega) (by omega) (ks6_set (by omega) (by omega) (ks6 u0 u1 u2 t0 t1 t2 (by assumption))))))
        (first
          | (go_at_call 29; refine (spAdd _ _ P Q _ (HR4.out.below (Below.drew hc4)) (HS4.out.below (Below.drew hc4)) hP hQ).mono ?_; rintro _ w6 ⟨q, rfl, hq, hb6⟩; have hSq := hq.isS; have hb6 : Below w4.heap.size w4 w6 := bthen (Below.drew hc4) hb6; have hbX := bthen HX4.out hb6; have hvr := keep_row hbX HR3.out; obtain ⟨hv0, hv1, hv2, hf0, hf1, hf2⟩ := row3 hvr)))
    | fail
  all_goals go_wp2
  all_goals
    obtain ⟨hx0, hx1, hx2, -, -, -⟩ := row3 (row3_set (x := .bool true) (y := q) (z := .int .i64 e) hvr)
    have hn := natv_dyad (x := .bool true) (y := q) (z := .int .i64 e) IsS.nil hq hvr
    have hbY := bset (i := 2) (u := .int .i64 e) (bset (i := 1) (u := q) (bset (i := 0) (u := .bool true) (HW.out.trans (hbX.mono hXs)) (Nat.le_add_right w.heap.size 2)) (Nat.le_add_right w.heap.size 2)) (Nat.le_add_right w.heap.size 2)
    refine bodyPost_ret (v := .agg #[.bool true, q, .int .i64 e]) ?_ rfl ⟨_, rfl, true, _, ⟨_, rfl, hn⟩, ?_, hbY⟩
    · simp [results, Tryz.results13, go_sem, hx0, hx1, hx2]
    · simp only [sI, if_true]; omega
end Go.Proofs.YtgbmlaffilccnaaGreatDoor
