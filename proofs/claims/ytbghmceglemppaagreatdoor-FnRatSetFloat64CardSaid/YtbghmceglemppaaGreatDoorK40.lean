/-
Texts of this proof, joined: SfD. No condition.
-/
import Derived.Test.YtbghmceglemppaaGreatDoorK14
import Derived.Test.YtbghmceglemppaaGreatDoorK15
import Derived.Test.YtbghmceglemppaaGreatDoorK31
import Derived.Test.YtbghmceglemppaaGreatDoorK32
import Derived.Test.YtbghmceglemppaaGreatDoorK33
import Derived.Test.YtbghmceglemppaaGreatDoorK39
/-
impl.RatSetFloat64; the statement on it. No condition but the threshold of recursive division.
-/
namespace Go.Proofs.YtbghmceglemppaaGreatDoor
open Go.RowKit

set_option maxRecDepth 100000 in
theorem ratSF_inf (g x : Nat) (w : World) (hx : x < 18446744073709551616) (hf : x / 4503599627370496 % 2048 = 2047) :
    Calls Tryz.prog 70 #[.pointer (some ⟨g, 0, none⟩), .float .f64 x] w fun e w' => e = .returned (.pointer none) ∧ w = w' := by
  have q1 : (x : Int) / 4503599627370496 = ((x / 4503599627370496 : Nat) : Int) := by omega
  have q2 : x / 4503599627370496 < 18446744073709551616 := by omega
  have q3 := and_2047 q2
  rw [hf] at q3
  have q4 := and_frac hx
  obtain ⟨q, hq⟩ : ∃ q, q = x / 4503599627370496 := ⟨_, rfl⟩
  rw [← hq] at q1 q2 q3
  obtain ⟨f, hff⟩ : ∃ f, f = x % 4503599627370496 := ⟨_, rfl⟩
  rw [← hff] at q4
  clear hf hq hff
  go_enter Tryz.func70, Tryz.ntmps70
  go_wp2_with (simp only [f64bits])
  go_ret
  exact ⟨rfl, rfl⟩
theorem two_new {w : World} {A B : Array Value} {T U : TypeId} : ((w.alloc (.cells A T)).alloc (.cells B U)).heap[w.heap.size]? = some (.cells A T (0, 0)) ∧ ((w.alloc (.cells A T)).alloc (.cells B U)).heap[w.heap.size + 1]? = some (.cells B U (0, 0)) := by
  refine ⟨keep_row (fbone _) (heap_alloc_new _ _), ?_⟩
  have := heap_alloc_new (w.alloc (.cells A T)) (.cells B U)
  rw [show (w.alloc (.cells A T)).heap.size = w.heap.size + 1 by simp] at this
  exact this
set_option maxRecDepth 100000 in
set_option maxHeartbeats 1600000 in
theorem impRSF_inf (x : Nat) (w : World) (hx : x < 18446744073709551616) (hf : x / 4503599627370496 % 2048 = 2047) :
    Calls Tryz.prog 23 #[.int .u64 x] w fun e w' => e = .returned (.tuple #[.agg #[.bool false, .slice none 0 0, .slice none 0 0], .bool false]) ∧ Below w.heap.size w w' := by
  obtain ⟨X, hX⟩ : ∃ X, X = (w.alloc (.cells #[.bool false, .slice none 0 0, .slice none 0 0] 43)).alloc (.cells #[.bool false, .slice none 0 0, .bool false, .slice none 0 0] 113) := ⟨_, rfl⟩
  have hab : Below w.heap.size w X := by rw [hX]; exact bthen (fbone _) (fbone _)
  have hrow : X.heap[w.heap.size]? = some (.cells #[.bool false, .slice none 0 0, .slice none 0 0] 43 (0, 0)) := by rw [hX]; exact two_new.1
  obtain ⟨c0, c1, c2, f0, f1, f2⟩ := row3 hrow
  obtain ⟨e0, e1, e2, -, -, -⟩ := row3 (row3_set (x := .bool false) (y := .slice none 0 0) (z := .slice none 0 0) hrow)
  have HB := Lib.hid (bset3 (a := .bool false) (b := .slice none 0 0) (c := .slice none 0 0) hab (Nat.le_refl _))
  have HI := Lib.hid (ratSF_inf (w.heap.size + 1) x X hx hf)
  clear hab hrow hf
  go_enter Tryz.func23, Tryz.ntmps23
  go_wp2_with (simp only [f64from])
  rw [← hX]
  clear hX
  refine HI.out.mono ?_
  rintro _ _ ⟨rfl, rfl⟩
  go_wp2
  refine bodyPost_ret (v := .tuple #[.agg #[.bool false, .slice none 0 0, .slice none 0 0], .bool false]) ?_ rfl ⟨rfl, HB.out⟩
  simp [results, Tryz.results23, go_sem, e0, e1, e2]
theorem rSF_V (x : Nat) : (rI (obN x) (sfN x)).natAbs = sfN x ∧ decide (rI (obN x) (sfN x) < 0) = (obN x && decide (0 < obM x)) := by
  rw [rI_abs, rI_neg, sf_pos]; exact ⟨rfl, rfl⟩
set_option maxRecDepth 100000 in
set_option maxHeartbeats 1600000 in
theorem impRSF (x : Nat) (w : World) (hx : x < 18446744073709551616) (hf : obF x) (hT : DivW w) :
    Calls Tryz.prog 23 #[.int .u64 x] w fun e w' => ∃ s r1 r2, e = .returned (.tuple #[.agg #[.bool s, r1, r2], .bool true]) ∧ IsS r1 ∧ IsS r2 ∧ FracV w' (.agg #[.bool s, r1, r2]) (rI (obN x) (sfN x)) (sfD x) ∧ Below w.heap.size w w' := by
  obtain ⟨X, hX⟩ : ∃ X, X = (w.alloc (.cells #[.bool false, .slice none 0 0, .slice none 0 0] 43)).alloc (.cells #[.bool false, .slice none 0 0, .bool false, .slice none 0 0] 113) := ⟨_, rfl⟩
  have hab : Below w.heap.size w X := by rw [hX]; exact bthen (fbone _) (fbone _)
  have hXz : X.heap.size = w.heap.size + 2 := by rw [hX]; simp
  have hrow : X.heap[w.heap.size]? = some (.cells #[.bool false, .slice none 0 0, .slice none 0 0] 43 (0, 0)) := by rw [hX]; exact two_new.1
  have hrow2 : X.heap[w.heap.size + 1]? = some (.cells #[.bool false, .slice none 0 0, .bool false, .slice none 0 0] 113 (0, 0)) := by rw [hX]; exact two_new.2
  have dg : 4 < w.heap.size + 1 := Nat.lt_succ_of_lt (World.block_lt_of_cell? w _ hT)
  have HI := Lib.hid (ratSF (w.heap.size + 1) (w.heap.size + 1) x X hx hf hrow2 (Nat.le_refl _) (hT.below hab) dg)
  obtain ⟨b1, b2⟩ := bl_sfN hf
  have m1 := nw_low (n := sfN x) (by omega)
  have m2 := nw_low (n := sfD x) (by omega)
  have HFR := Lib.hid (fun (w' : World) (h : RatP w' (w.heap.size + 1) (w.heap.size + 1) (obN x && decide (0 < obM x)) (sfN x / Nat.gcd (sfN x) (sfD x)) (sfD x / Nat.gcd (sfN x) (sfD x))) =>
    frac_any _ _ _ _ _ w' h (gcd_div_pos (sfD_pos x)) (Nat.le_trans (nw_mono (Nat.div_le_self _ _)) (by omega)) (Nat.le_trans (nw_mono (Nat.div_le_self _ _)) (by omega)))
  obtain ⟨v1, v2⟩ := rSF_V x
  have v3 := neg_div (rI (obN x) (sfN x)) (sfD_pos x)
  rw [v1, v2] at v3
  rw [v3] at HFR
  obtain ⟨s, hs⟩ : ∃ s, s = (obN x && decide (0 < obM x)) := ⟨_, rfl⟩
  rw [← hs] at HFR HI v2
  obtain ⟨N, hN⟩ : ∃ N, N = sfN x / Nat.gcd (sfN x) (sfD x) := ⟨_, rfl⟩
  obtain ⟨D, hD⟩ : ∃ D, D = sfD x / Nat.gcd (sfN x) (sfD x) := ⟨_, rfl⟩
  have HV := Lib.hid (And.intro v1 (And.intro v2 (And.intro hN hD)))
  rw [← hN, ← hD] at HFR HI
  have HR := Lib.hid hrow
  have HB := Lib.hid hab
  clear hab hrow hrow2 hf b1 b2 m1 m2 v1 v2 v3 hs hN hD hT
  go_enter Tryz.func23, Tryz.ntmps23
  go_wp2_with (simp only [f64from])
  rw [← hX]
  clear hX
  refine HI.out.mono ?_
  rintro _ w1 ⟨rfl, hr, hb1⟩
  have HR1 := Lib.hid hr
  have hrow1 : w1.heap[w.heap.size]? = some (.cells #[.bool false, .slice none 0 0, .slice none 0 0] 43 (0, 0)) := (hb1.block _ (Nat.lt_succ_self _)).trans HR.out
  have HRW := Lib.hid hrow1
  have HB1 := Lib.hid (HB.out.trans (hb1.mono (Nat.le_succ _)))
  clear hr hb1 hrow1
  go_wp2_with fail
  refine (HFR.out w1 HR1.out).mono ?_
  rintro _ w2 ⟨r1, r2, rfl, k1, k2, hb2⟩
  have hSr1 := k1.isS
  have hSr2 := k2.isS
  have hrow2 := keep_row hb2 HRW.out
  obtain ⟨c0, c1, c2, f0, f1, f2⟩ := row3 hrow2
  obtain ⟨e0, e1, e2, -, -, -⟩ := row3 (row3_set (x := .bool s) (y := r1) (z := r2) hrow2)
  have A1 := Lib.hid (rw_row3 (x := .bool s) (y := r1) (z := r2) k1 IsS.nil IsS.nil hrow2)
  have A2 := Lib.hid (rw_row3 (x := .bool s) (y := r1) (z := r2) k2 IsS.nil IsS.nil hrow2)
  have HBB := Lib.hid (bset3 (a := .bool s) (b := r1) (c := r2) (HB1.out.trans (hb2.mono HB1.out.size)) (Nat.le_refl _))
  clear hrow2 k1 k2 hb2
  go_wp2
  refine bodyPost_ret (v := .tuple #[.agg #[.bool s, r1, r2], .bool true]) ?_ rfl ⟨s, r1, r2, rfl, hSr1, hSr2, ⟨r1, r2, by rw [HV.out.2.1], ?_, ?_⟩, HBB.out⟩
  · simp [results, Tryz.results23, go_sem, e0, e1, e2]
  · rw [HV.out.1, ← HV.out.2.2.1]; exact A1.out
  · rw [HV.out.1, ← HV.out.2.2.2]; exact A2.out
theorem ks6S {W X : World} {k0 k1 T0 T1 : Nat} {a0 b0 c0 a1 b1 c1 : Value} (h0 : W.heap[k0]? = some (.cells #[a0, b0, c0] T0 (0, 0))) (h1 : W.heap[k1]? = some (.cells #[a1, b1, c1] T1 (0, 0))) (h : Below W.heap.size W X) :
    Below W.heap.size W X ∧ (X.cell? ⟨k0, 0, none⟩ = some a0 ∧ X.cell? ⟨k0, 1, none⟩ = some b0 ∧ X.cell? ⟨k0, 2, none⟩ = some c0) ∧ X.cell? ⟨k1, 0, none⟩ = some a1 ∧ X.cell? ⟨k1, 1, none⟩ = some b1 ∧ X.cell? ⟨k1, 2, none⟩ = some c1 := by
  obtain ⟨x0, y0, z0, -, -, -⟩ := row3 (keep_row h h0)
  obtain ⟨x1, y1, z1, -, -, -⟩ := row3 (keep_row h h1)
  exact ⟨h, ⟨x0, y0, z0⟩, x1, y1, z1⟩
set_option maxRecDepth 100000 in
set_option maxHeartbeats 1600000 in
theorem lawRSF_inf (x : Nat) (w : World) (hx : x < 18446744073709551616) (hf : x / 4503599627370496 % 2048 = 2047) :
    Calls Tryz.prog 4 #[.int .u64 x] w fun e w' => e = .returned (.bool true) ∧ Below w.heap.size w w' := by
  have q1 : (x : Int) / 4503599627370496 = ((x / 4503599627370496 : Nat) : Int) := by omega
  have q2 : x / 4503599627370496 < 18446744073709551616 := by omega
  have q3 := and_2047 q2
  rw [hf] at q3
  have HI := Lib.hid (impRSF_inf x w hx hf)
  obtain ⟨q, hq⟩ : ∃ q, q = x / 4503599627370496 := ⟨_, rfl⟩
  rw [← hq] at q1 q2 q3
  clear hf hq
  go_enter Tryz.func4, Tryz.ntmps4
  go_wp2_with fail
  refine HI.out.mono ?_
  rintro _ w1 ⟨rfl, hb1⟩
  have hb2 := hb1.alloc hb1.size (.cells #[.bool false, .slice none 0 0, .slice none 0 0] 43)
  go_wp2
  go_ret
  exact ⟨rfl, hb2⟩
set_option maxRecDepth 100000 in
set_option maxHeartbeats 3200000 in
theorem lawRSF_fin (x : Nat) (w : World) (hx : x < 18446744073709551616) (hf : obF x) (hT : DivW w) :
    Calls Tryz.prog 4 #[.int .u64 x] w fun e w' => e = .returned (.bool true) ∧ Below w.heap.size w w' := by
  have q1 : (x : Int) / 4503599627370496 = ((x / 4503599627370496 : Nat) : Int) := by omega
  have q2 : x / 4503599627370496 < 18446744073709551616 := by omega
  have q3 := and_2047 q2
  have t7 : (((x / 4503599627370496 % 2048 : Nat) : Int) == 2047) = false := by rw [beq_eq_false_iff_ne]; unfold obF at hf; omega
  have HI := Lib.hid (impRSF x w hx hf hT)
  have HOB := Lib.hid (fun w' => spOfBits' x w' hx)
  obtain ⟨q, hq⟩ : ∃ q, q = x / 4503599627370496 := ⟨_, rfl⟩
  rw [← hq] at q1 q2 q3 t7
  obtain ⟨e, he⟩ : ∃ e, e = q % 2048 := ⟨_, rfl⟩
  rw [← he] at q3 t7
  have hel : e < 2048 := by omega
  have hE := obE_bd hf
  obtain ⟨b1, b2⟩ := bl_sfN hf
  have hn1 := nl_of_bl b1
  have hn2 := nl_of_bl b2
  have m1 := nw_low (n := sfN x) (by omega)
  have m2 := nw_low (n := sfD x) (by omega)
  have hMb := nl_of_bl (bl_le (n := obM x) (k := 53) (by have := obM_bd x; omega))
  have HV := Lib.hid (rSF_V x)
  have HNN : Hid ((obN x && decide (0 < sfN x)) = decide (rI (obN x) (sfN x) < 0)) := Lib.hid (by rw [rI_neg])
  have hdp := sfD_pos x
  obtain ⟨a, ha⟩ := Int.eq_ofNat_of_zero_le (show 0 ≤ max (obE x) 0 by omega)
  obtain ⟨c, hc⟩ := Int.eq_ofNat_of_zero_le (show 0 ≤ max (-obE x) 0 by omega)
  have wE : IntKind.i64.wrap (-obE x) = -obE x := wrap_i64_id (by omega) (by omega)
  have hab : a ≤ 971 ∧ c ≤ 1074 := by omega
  obtain ⟨hab1, hab2⟩ := hab
  have HSHL : Hid (∀ (w' : World) (b : Value), NatV w' b (obM x) → Calls Tryz.prog 27 #[b, .int .i64 a] w' fun e w5 => ∃ r, e = .returned r ∧ NatV w5 r (sfN x) ∧ Below w'.heap.size w' w5) := Lib.hid (fun w' b hb => by
    have := spShl b (obM x) a w' hb (by omega) (by omega)
    rw [show obM x * 2 ^ a = sfN x by unfold sfN; congr 2; omega] at this
    exact this.mono fun _ _ h => h)
  have HBIT : Hid (∀ (w' : World), Calls Tryz.prog 28 #[.int .i64 c] w' fun e w5 => ∃ r, e = .returned r ∧ NatV w5 r (sfD x) ∧ Below w'.heap.size w' w5) := Lib.hid (fun w' => by
    have := spBit c w' (by omega)
    rw [show 2 ^ c = sfD x by unfold sfD; congr 1; omega] at this
    exact this.mono fun _ _ h => h)
  have HOV : Hid (∀ (w' : World) (r d : Value), NatV w' r (sfN x) → NatV w' d (sfD x) → Calls Tryz.prog 26 #[.bool (obN x), r, d] w' fun e w5 => ∃ u, e = .returned u ∧ RtI w5 u (rI (obN x) (sfN x)) (sfD x) ∧ Below w'.heap.size w' w5) := Lib.hid (fun w' r d hr hd => by
    refine (over_any (obN x) r d _ _ w' hr hd (by omega) (by omega) hdp).mono ?_
    rintro _ w5 ⟨p, q, rfl, k1, k2, k3⟩
    refine ⟨_, rfl, ⟨p, q, by rw [HNN.out], ?_, ?_⟩, k3⟩
    · rw [HV.out.1]; exact k1
    · rw [HV.out.1]; exact k2)
  have HIS : Hid (∀ (w' : World) (v u : Value), FracV w' v (rI (obN x) (sfN x)) (sfD x) → RtI w' u (rI (obN x) (sfN x)) (sfD x) → Calls Tryz.prog 25 #[v, u] w' fun e w5 => e = .returned (.bool true) ∧ Below w'.heap.size w' w5) := Lib.hid (fun w' v u h1 h2 => isFracV_same h1 h2 hdp (by rw [HV.out.1]; omega) (by omega))
  obtain ⟨V, hV⟩ : ∃ V, V = rI (obN x) (sfN x) := ⟨_, rfl⟩
  rw [← hV] at HIS HOV HI
  obtain ⟨n, hn⟩ : ∃ n, n = obN x := ⟨_, rfl⟩
  rw [← hn] at HOV HOB
  obtain ⟨E, hEE⟩ : ∃ E, E = obE x := ⟨_, rfl⟩
  rw [← hEE] at HOB ha hc wE hE
  clear hf hq he HV HNN hV hn hEE b1 b2 hn1 hn2 m1 m2 hMb hdp hT
  obtain ⟨hE1, hE2⟩ := hE
  go_enter Tryz.func4, Tryz.ntmps4
  go_wp2_with fail
  refine HI.out.mono ?_
  rintro _ w1 ⟨s, r1, r2, rfl, hS1, hS2, hfv, hb1⟩
  have HF1 := Lib.hid (hfv.below (fbone (.cells #[.bool s, r1, r2] 43)))
  have HB1 := Lib.hid (hb1.alloc hb1.size (.cells #[.bool s, r1, r2] 43))
  have HRz := Lib.hid (heap_alloc_new w1 (.cells #[.bool s, r1, r2] 43))
  clear hfv hb1
  go_wp2_with fail
  refine (HOB.out _).mono ?_
  rintro _ w2 ⟨b, rfl, hb, hb2⟩
  have hSb := hb.isS
  go_upto_region 5 with fail
  obtain ⟨Z, hZ⟩ : ∃ Z, Z = w2.alloc (.cells #[.bool n, b, .int .i64 E] 30) := ⟨_, rfl⟩
  rw [← hZ]
  have hbZ : Below w2.heap.size w2 Z := by rw [hZ]; exact fbone _
  have hrv : Z.heap[w2.heap.size]? = some (.cells #[.bool n, b, .int .i64 E] 30 (0, 0)) := by rw [hZ]; exact heap_alloc_new _ _
  have hrz : Z.heap[w1.heap.size]? = some (.cells #[.bool s, r1, r2] 43 (0, 0)) := keep_row (bthen hb2 hbZ) HRz.out
  have HB := Lib.hid (hb.below hbZ)
  have HF := Lib.hid (HF1.out.below (bthen hb2 hbZ))
  have HBZ := Lib.hid (HB1.out.trans ((bthen hb2 hbZ).mono HB1.out.size))
  have HRZ := Lib.hid hrz
  have HRV := Lib.hid hrv
  obtain ⟨x0, x1, x2, -, -, -⟩ := row3 hrz
  obtain ⟨y0, y1, y2, -, -, -⟩ := row3 hrv
  have hcc := Below.refl Z.heap.size Z
  clear hZ hb hb2 hbZ hrz hrv HF1 HB1 HRz
  (go_region_held3 (fun w' => Below Z.heap.size Z w' ∧ (w'.cell? ⟨w1.heap.size, 0, none⟩ = some (.bool s) ∧ w'.cell? ⟨w1.heap.size, 1, none⟩ = some r1 ∧ w'.cell? ⟨w1.heap.size, 2, none⟩ = some r2) ∧ w'.cell? ⟨w2.heap.size, 0, none⟩ = some (.bool n) ∧ w'.cell? ⟨w2.heap.size, 1, none⟩ = some b ∧ w'.cell? ⟨w2.heap.size, 2, none⟩ = some (.int .i64 E))
    ((refine ks6S HRZ.out HRV.out ?_; with_reducible first | assumption | exact Below.drew hcc))
    (first
      | (go_at_call 25; (with_reducible refine (HIS.out _ _ _ HF6.out HT6.out).mono ?_); rintro _ w7 ⟨rfl, hb7'⟩; have hb7 := bthen hb6 hb7')
      | (go_at_call 26; (with_reducible refine (HOV.out _ _ _ HR4.out HD5.out).mono ?_); rintro _ w6 ⟨u, rfl, hu, hb6'⟩; have hb6 := bthen hb5 hb6'; have HT6 := Lib.hid hu; have HF6 := Lib.hid (HF.out.below hb6); clear hu)
      | (go_at_call 28; (with_reducible refine (HBIT.out _).mono ?_); rintro _ w5 ⟨d, rfl, hd, hb5'⟩; have hSd := hd.isS; have hb5 := bthen hb4 hb5'; have HD5 := Lib.hid hd; have HR4 := Lib.hid (HR3.out.below hb5'); clear hd)
      | (go_at_call 27; (with_reducible refine (HSHL.out _ _ (HB.out.below (Below.drew hcc))).mono ?_); rintro _ w4 ⟨r, rfl, hr, hb4'⟩; have hSr := hr.isS; have hb4 : Below Z.heap.size Z w4 := bthen (Below.drew hcc) hb4'; have HR3 := Lib.hid hr; clear hr)))
  all_goals
    have hbe := HBZ.out.trans (hb7.mono HBZ.out.size)
    go_wp2
    go_ret
    exact ⟨rfl, hbe⟩
/-- The statement. -/
theorem lawRatSetFloat64 (a : Int) (w : World) (_hK : KarW w) (hT : DivW w) (h1 : 0 ≤ a) (h2 : a ≤ 18446744073709551615) :
    Calls Tryz.prog 4 #[.int .u64 a] w fun e w' => e = .returned (.bool true) ∧ Below w.heap.size w w' := by
  obtain ⟨x, rfl⟩ := Int.eq_ofNat_of_zero_le h1
  have hx : x < 18446744073709551616 := by omega
  by_cases hf : x / 4503599627370496 % 2048 = 2047
  · exact lawRSF_inf x w hx hf
  · exact lawRSF_fin x w hx (by unfold obF; omega) hT
end Go.Proofs.YtbghmceglemppaaGreatDoor
