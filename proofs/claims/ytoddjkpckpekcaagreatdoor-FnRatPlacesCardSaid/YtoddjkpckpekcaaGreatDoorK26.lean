/-
Texts of this proof, joined: AhA LwO FdB FdC RcH FvA RcI0 RgH RgI. No condition.
-/
import Derived.Test.YtoddjkpckpekcaaGreatDoorK02
import Derived.Test.YtoddjkpckpekcaaGreatDoorK03
import Derived.Test.YtoddjkpckpekcaaGreatDoorK06
import Derived.Test.YtoddjkpckpekcaaGreatDoorK07
import Derived.Test.YtoddjkpckpekcaaGreatDoorK09
import Derived.Test.YtoddjkpckpekcaaGreatDoorK13
import Derived.Test.YtoddjkpckpekcaaGreatDoorK21
import Derived.Test.YtoddjkpckpekcaaGreatDoorK24
import Derived.Test.YtoddjkpckpekcaaGreatDoorK25
import Derived.Laws.BitsAllLaws
import Derived.Deep.RegionHeld3
import Derived.RegionTactic
import Derived.BigRegion
namespace Go.Proofs.YtoddjkpckpekcaaGreatDoor
open Go.RowKit

theorem add_mark {q r : Nat} : (if 0 < nl r then q * 2 + 1 else q * 2) = 2 * q + (if r = 0 then 0 else 1) := by
  rcases Nat.eq_zero_or_pos r with h | h
  · rw [h, nl_zero, if_neg (by omega), if_pos rfl]; omega
  · have : 0 < nl r := by
      refine Nat.pos_of_ne_zero fun h0 => ?_
      have := lt_nl r
      rw [h0, Nat.pow_zero] at this
      omega
    rw [if_pos this, if_neg (by omega)]; omega
theorem ks6A {W X : World} {k0 k1 T0 T1 : Nat} {a0 b0 c0 a1 b1 c1 : Value} (h0 : W.heap[k0]? = some (.cells #[a0, b0, c0] T0 (0, 0))) (h1 : W.heap[k1]? = some (.cells #[a1, b1, c1] T1 (0, 0))) (h : Below W.heap.size W X) :
    Below W.heap.size W X ∧ (X.cell? ⟨k0, 0, none⟩ = some a0 ∧ X.cell? ⟨k0, 1, none⟩ = some b0 ∧ X.cell? ⟨k0, 2, none⟩ = some c0) ∧ X.cell? ⟨k1, 0, none⟩ = some a1 ∧ X.cell? ⟨k1, 1, none⟩ = some b1 ∧ X.cell? ⟨k1, 2, none⟩ = some c1 := by
  obtain ⟨x0, y0, z0, -, -, -⟩ := row3 (keep_row h h0)
  obtain ⟨x1, y1, z1, -, -, -⟩ := row3 (keep_row h h1)
  exact ⟨h, ⟨x0, y0, z0⟩, x1, y1, z1⟩
set_option maxRecDepth 100000 in
set_option maxHeartbeats 3200000 in
theorem ahead_any (n1 n2 : Bool) (a b : Value) (e1 e2 : Int) (X Y n : Nat) (w : World) (ha : NatV w a X) (hb : NatV w b Y) (hX : bl X ≤ 100000) (hY0 : 0 < Y) (hY : bl Y ≤ 100000) (hn : n ≤ 100000) (h1 : -2000000000 ≤ e1 ∧ e1 ≤ 2000000000) (h2 : -2000000000 ≤ e2 ∧ e2 ≤ 2000000000) :
    Calls Tryz.prog 36 #[.agg #[.bool n1, a, .int .i64 e1], .agg #[.bool n2, b, .int .i64 e2], .int .i64 n] w fun e' w' => ∃ c, e' = .returned (.agg #[.bool (n1 != n2), c, .int .i64 (e1 - e2 - ((n + 1 + bl Y - bl X : Nat) : Int) - 1)]) ∧
      NatV w' c (2 * qN X Y (n + 1 + bl Y - bl X) + qS X Y (n + 1 + bl Y - bl X)) ∧ Below w.heap.size w w' := by
  have hSa := ha.isS
  have hSb := hb.isS
  obtain ⟨W, hW⟩ : ∃ W, W = ((w.alloc (.cells #[.bool n1, a, .int .i64 e1] 69)).alloc (.cells #[.bool n2, b, .int .i64 e2] 69)).alloc (.cells #[.bool false, .slice none 0 0, .int .i64 0] 69) := ⟨_, rfl⟩
  have hac : Below w.heap.size w W := by rw [hW]; exact (((Below.refl _ w).alloc (Nat.le_refl _) _).alloc (by simp) _).alloc (by simp; omega) _
  have hr1 : W.heap[w.heap.size]? = some (.cells #[.bool n1, a, .int .i64 e1] 69 (0, 0)) := by rw [hW]; exact keep_row (fbone _) (keep_row (fbone _) (row_new _ _ _ _ rfl))
  have hr2 : W.heap[w.heap.size + 1]? = some (.cells #[.bool n2, b, .int .i64 e2] 69 (0, 0)) := by rw [hW]; exact keep_row (fbone _) (row_new _ _ _ _ (by simp))
  have hr3 : W.heap[w.heap.size + 1 + 1]? = some (.cells #[.bool false, .slice none 0 0, .int .i64 0] 69 (0, 0)) := by rw [hW]; exact row_new _ _ _ _ (by simp)
  obtain ⟨x0, x1, x2, -, -, -⟩ := row3 hr1
  obtain ⟨y0, y1, y2, -, -, -⟩ := row3 hr2
  obtain ⟨la, hla⟩ : ∃ l, l = bl X := ⟨_, rfl⟩
  obtain ⟨lb, hlb⟩ : ∃ l, l = bl Y := ⟨_, rfl⟩
  obtain ⟨k, hk⟩ : ∃ k, k = n + 1 + bl Y - bl X := ⟨_, rfl⟩
  have hnX : nl X ≤ 100000 := nl_of_bl (by omega)
  have hnY : nl Y ≤ 100000 := nl_of_bl (by omega)
  have emax : max (0 : Int) ((n : Int) + 1 + (lb : Int) - (la : Int)) = (k : Int) := by omega
  have hkb : k ≤ 300000 := by omega
  have hla2 : la ≤ 100000 := by omega
  have hlb2 : lb ≤ 100000 := by omega
  rw [← hk]
  have NA := Lib.hid (ha.below hac)
  have NB := Lib.hid (hb.below hac)
  have HLA : Hid (∀ j : Nat, Calls Tryz.prog 68 #[a] (W.drewN j) fun e' w' => e' = .returned (.int .i64 (la : Int)) ∧ w' = W.drewN j) := Lib.hid (fun j => by
    rw [hla]
    exact (spLen a X (W.drewN j) (NA.out.below (undrewN' (Below.refl _ _))) (by omega)).mono (fun _ _ h => ⟨h.1, h.2.symm⟩))
  have HLB : Hid (∀ j : Nat, Calls Tryz.prog 68 #[b] (W.drewN j) fun e' w' => e' = .returned (.int .i64 (lb : Int)) ∧ w' = W.drewN j) := Lib.hid (fun j => by
    rw [hlb]
    exact (spLen b Y (W.drewN j) (NB.out.below (undrewN' (Below.refl _ _))) (by omega)).mono (fun _ _ h => ⟨h.1, h.2.symm⟩))
  have hnXk : nl (X * 2 ^ k) ≤ 1000000 := nl_of_bl (by have := bl_two X k; omega)
  have HSH : Hid (∀ w', Below W.heap.size W w' → Calls Tryz.prog 71 #[a, .int .i64 k] w' fun e w5 => ∃ r, e = .returned r ∧ NatV w5 r (X * 2 ^ k) ∧ Below w'.heap.size w' w5) := Lib.hid (fun w' h => (spShl a X k w' (NA.out.below h) (by omega) (by omega)).mono fun _ _ h => h)
  have HDM : Hid (∀ w' r, Below W.heap.size W w' → NatV w' r (X * 2 ^ k) → Calls Tryz.prog 70 #[r, b] w' fun e w5 => ∃ q t, e = .returned (.tuple #[q, t]) ∧ NatV w5 q (X * 2 ^ k / Y) ∧ NatV w5 t (X * 2 ^ k % Y) ∧ Below w'.heap.size w' w5) := Lib.hid (fun w' r h hr => by
    refine (spDivMod r b (X * 2 ^ k) Y w' hr (NB.out.below h) (by omega) (by omega) hY0).mono ?_
    rintro _ w5 ⟨_, rfl, q, t, rfl, k1, k2, k3⟩
    exact ⟨q, t, rfl, k1, k2, k3⟩)
  obtain ⟨Z, hZ⟩ : ∃ Z, Z = X * 2 ^ k := ⟨_, rfl⟩
  have hqb : nl (Z / Y) ≤ 1000000 := Nat.le_trans (nl_mono (Nat.div_le_self _ _)) (by rw [hZ]; exact hnXk)
  have hqb2 : nl (Z / Y * 2 ^ 1) ≤ 2000000 := nl_of_bl (by
    have h1 := bl_two (Z / Y) 1
    have h2 := bl_mono (Nat.div_le_self Z Y)
    have h3 := bl_two X k
    rw [← hZ] at h3
    omega)
  have HFIN : Hid (2 * qN X Y k + qS X Y k = if 0 < nl (Z % Y) then Z / Y * 2 + 1 else Z / Y * 2) := Lib.hid (by rw [add_mark]; unfold qN qS; rw [← hZ])
  rw [← hZ] at HSH HDM
  rw [HFIN.out]
  obtain ⟨Q, hQ⟩ : ∃ Q, Q = Z / Y := ⟨_, rfl⟩
  obtain ⟨T, hT⟩ : ∃ T, T = Z % Y := ⟨_, rfl⟩
  rw [← hQ] at HDM hqb hqb2
  rw [← hT] at HDM
  rw [← hQ, ← hT]
  obtain ⟨RN, hRN⟩ : ∃ N, N = if 0 < nl T then Q * 2 + 1 else Q * 2 := ⟨_, rfl⟩
  rw [← hRN]
  have HRN := Lib.hid hRN
  clear hRN
  obtain ⟨E, hE⟩ : ∃ E : Int, E = e1 - e2 - (k : Int) - 1 := ⟨_, rfl⟩
  have w1 : IntKind.i64.wrap (e1 - e2) = e1 - e2 := wrap_i64_id (by omega) (by omega)
  have w2 : IntKind.i64.wrap (e1 - e2 - (k : Int)) = e1 - e2 - (k : Int) := wrap_i64_id (by omega) (by omega)
  have w3 : IntKind.i64.wrap (e1 - e2 - (k : Int) - 1) = E := by rw [hE]; exact wrap_i64_id (by omega) (by omega)
  rw [← hE]
  obtain ⟨sg, hsg⟩ : ∃ sg, sg = (n1 != n2) := ⟨_, rfl⟩
  rw [← hsg]
  have Hsg := Lib.hid hsg
  have HR1 := Lib.hid hr1
  have HR2 := Lib.hid hr2
  have HR3 := Lib.hid hr3
  have HW := Lib.hid hac
  have hWs := hac.size
  have hcc := Below.refl W.heap.size W
  clear ha hb hac hr1 hr2 hr3 hla hlb hk hX hY0 hY hZ hQ hT hE hsg HFIN hnXk hnX hnY
  go_enter Tryz.func36, Tryz.ntmps36
  go_upto_region 1 with fail
  rw [← hW]
  clear hW
  go_quiet ((go_at_call 68; first | (with_reducible exact Calls.quiet_of_same (HLA.out _)) | (with_reducible exact Calls.quiet_of_same (HLB.out _))))
  go_upto_region 2 with fail
  (go_region_held3 (fun w' => Below W.heap.size W w' ∧ (w'.cell? ⟨w.heap.size, 0, none⟩ = some (.bool n1) ∧ w'.cell? ⟨w.heap.size, 1, none⟩ = some a ∧ w'.cell? ⟨w.heap.size, 2, none⟩ = some (.int .i64 e1)) ∧ w'.cell? ⟨w.heap.size + 1, 0, none⟩ = some (.bool n2) ∧ w'.cell? ⟨w.heap.size + 1, 1, none⟩ = some b ∧ w'.cell? ⟨w.heap.size + 1, 2, none⟩ = some (.int .i64 e2))
        ((refine ks6A HR1.out HR2.out ?_; (repeat (with_reducible first | assumption | refine Below.drew ?_ | refine undrewN' ?_))))
        (first
          | (go_at_call 70; (with_reducible refine (HDM.out _ _ hb5 HZ5.out).mono ?_); rintro _ w6 ⟨q, t, rfl, hq, ht, hb6'⟩; have hb6 := bthen hb5 hb6'; have HQ6 := Lib.hid hq; have HT6 := Lib.hid ht; have hSq := hq.isS; have hSt := ht.isS; have hLt : sLen t = nl T := ht.len; clear hq ht)
          | (go_at_call 71; (with_reducible refine (HSH.out _ (by repeat (with_reducible first | assumption | refine Below.drew ?_ | refine undrewN' ?_))).mono ?_); rintro _ w5 ⟨r, rfl, hr, hb5'⟩; have hb5 : Below W.heap.size W w5 := bthen (by repeat (with_reducible first | assumption | refine Below.drew ?_ | refine undrewN' ?_)) hb5'; have HZ5 := Lib.hid hr; have hSr := hr.isS; clear hr)))
  all_goals
    have HB6 := Lib.hid hb6
    have HR16 := Lib.hid (keep_row hb6 HR1.out)
    have HR26 := Lib.hid (keep_row hb6 HR2.out)
    have HR36 := Lib.hid (keep_row hb6 HR3.out)
    clear x0 x1 x2 y0 y1 y2 hb5 hb5' hb6 hb6' HZ5
    go_wp2_with fail
    refine (spShl q Q 1 w6 HQ6.out (by omega) (by decide)).mono ?_
    rintro _ w7 ⟨q2, rfl, hq2, hb7⟩
    have hSq2 := hq2.isS
    have HQ7 := Lib.hid hq2
    clear hq2
    rw [show (2 : Nat) ^ 1 = 2 from rfl] at HQ7 hqb2
    by_cases hT0 : 0 < nl T
    · have u1 : decide ((0 : Int) < (nl T : Int)) = true := decide_eq_true (by omega)
      have HRP : Hid (RN = Q * 2 + 1) := Lib.hid (by rw [HRN.out, if_pos hT0])
      obtain ⟨lt, hlt⟩ : ∃ l, l = nl T := ⟨_, rfl⟩
      rw [← hlt] at u1 hLt hT0
      clear hlt
      go_wp2_with fail
      refine (spSmall 1 w7 (by decide)).mono ?_
      rintro _ w8 ⟨o1, rfl, ho1, hb8⟩
      have hSo := ho1.isS
      have HO := Lib.hid ho1
      clear ho1
      go_wp2_with fail
      refine (spAdd q2 o1 (Q * 2) 1 w8 (HQ7.out.below hb8) HO.out (by omega) (by decide)).mono ?_
      rintro _ w9 ⟨q3, rfl, hq3, hb9⟩
      have hb69 := bthen (bthen hb7 hb8) hb9
      have hSq3 := hq3.isS
      have HQ9 := Lib.hid hq3
      have hrw := keep_row hb69 HR36.out
      obtain ⟨p0, p1, p2, -, -, -⟩ := row3 (keep_row hb69 HR16.out)
      obtain ⟨q0, q1, q2', -, -, -⟩ := row3 (keep_row hb69 HR26.out)
      obtain ⟨z0, z1, z2, z3, z4, z5⟩ := row3 hrw
      have HRw := Lib.hid hrw
      have HB9 := Lib.hid (HW.out.trans ((bthen HB6.out hb69).mono hWs))
      clear hq3 hb7 hb8 hb9 hb69 hrw
      go_wp2
      obtain ⟨hx0, hx1, hx2, -, -, -⟩ := row3 (row3_set (x := .bool (!(n1 == n2))) (y := q3) (z := .int .i64 E) HRw.out)
      refine bodyPost_ret (v := .agg #[.bool (!(n1 == n2)), q3, .int .i64 E]) ?_ rfl ⟨q3, by rw [Hsg.out]; rfl, by rw [HRP.out]; exact natv_dyad (x := .bool (!(n1 == n2))) (y := q3) (z := .int .i64 E) IsS.nil HQ9.out HRw.out, bset (bset (bset HB9.out (by omega)) (by omega)) (by omega)⟩
      simp [results, Tryz.results36, go_sem, hx0, hx1, hx2]
    · have u1 : decide ((0 : Int) < (nl T : Int)) = false := decide_eq_false (by omega)
      have HRP : Hid (RN = Q * 2) := Lib.hid (by rw [HRN.out, if_neg hT0])
      obtain ⟨lt, hlt⟩ : ∃ l, l = nl T := ⟨_, rfl⟩
      rw [← hlt] at u1 hLt hT0
      clear hlt
      have hrw := keep_row hb7 HR36.out
      obtain ⟨p0, p1, p2, -, -, -⟩ := row3 (keep_row hb7 HR16.out)
      obtain ⟨q0, q1, q2', -, -, -⟩ := row3 (keep_row hb7 HR26.out)
      obtain ⟨z0, z1, z2, z3, z4, z5⟩ := row3 hrw
      have HRw := Lib.hid hrw
      have HB9 := Lib.hid (HW.out.trans ((bthen HB6.out hb7).mono hWs))
      clear hb7 hrw
      go_wp2
      obtain ⟨hx0, hx1, hx2, -, -, -⟩ := row3 (row3_set (x := .bool (!(n1 == n2))) (y := q2) (z := .int .i64 E) HRw.out)
      refine bodyPost_ret (v := .agg #[.bool (!(n1 == n2)), q2, .int .i64 E]) ?_ rfl ⟨q2, by rw [Hsg.out]; rfl, by rw [HRP.out]; exact natv_dyad (x := .bool (!(n1 == n2))) (y := q2) (z := .int .i64 E) IsS.nil HQ7.out HRw.out, bset (bset (bset HB9.out (by omega)) (by omega)) (by omega)⟩
      simp [results, Tryz.results36, go_sem, hx0, hx1, hx2]
theorem row_chain11 {w : World} {a : Array Value} {A : TypeId} : (w.alloc (.cells a A)).heap[w.heap.size]? = some (.cells a A (0, 0)) := box_row (Below.refl _ _)
theorem btQ_le (n : Bool) (M k : Nat) (E L : Int) : btQ n M E (btU M E k L) ≤ 2 ^ (k + 1) := by
  obtain ⟨u, hu⟩ : ∃ u, u = btU M E k L := ⟨_, rfl⟩
  have hu2 : u = max L (E + bl M - 1 - k) := hu
  rw [← hu]
  clear hu
  unfold btQ
  by_cases h : u ≤ E
  · rw [if_pos h]
    refine Nat.le_of_lt (Nat.lt_of_lt_of_le (lt_bl _) (Nat.pow_le_pow_right (by decide) ?_))
    have := bl_two M (E - u).toNat
    omega
  · rw [if_neg h]
    have h1 : M / 2 ^ (u - E).toNat < 2 ^ (k + 1) := by
      refine Nat.div_lt_of_lt_mul ?_
      rw [← Nat.pow_add]
      exact Nat.lt_of_lt_of_le (lt_bl M) (Nat.pow_le_pow_right (by decide) (by omega))
    have h2 : ctQ 0 n M (u - E).toNat ≤ M / 2 ^ (u - E).toNat + 1 := by unfold ctQ; split <;> omega
    omega
theorem btA_bd (n : Bool) (M : Nat) (E u : Int) : -1 ≤ btA n M E u ∧ btA n M E u ≤ 1 := by
  unfold btA ctA
  repeat' split
  all_goals omega
theorem cut0 (n : Bool) (a : Value) (M : Nat) (E u : Int) (w : World) (ha : NatV w a M) (hM : nl M ≤ 10000000) (hE : -100000000 ≤ u - E ∧ u - E ≤ 100000000) :
    Calls Tryz.prog 69 #[.bool n, a, .int .i64 (u - E), .int .i64 0] w fun e w' => ∃ r, e = .returned (.tuple #[r, .int .i64 (btA n M E u)]) ∧ NPost (btQ n M E u) w r w' := by
  by_cases h : u ≤ E
  · obtain ⟨k, hk⟩ := Int.eq_ofNat_of_zero_le (show 0 ≤ E - u by omega)
    rw [btA, btQ, if_pos h, if_pos h, show (E - u).toNat = k by omega]
    exact spCut_neg n a M k (u - E) 0 w ha hM (by omega) (by omega)
  · obtain ⟨k, hk⟩ := Int.eq_ofNat_of_zero_le (show 0 ≤ u - E by omega)
    have h1 := spCut_any n a M k 0 w ha hM (by omega) (by decide)
    rw [btA, btQ, if_neg h, if_neg h, show (u - E).toNat = k by omega, hk]
    exact h1
set_option maxRecDepth 100000 in
set_option maxHeartbeats 3200000 in
theorem spBits52 (n : Bool) (a : Value) (E : Int) (M : Nat) (w : World) (ha : NatV w a M) (hM : bl M ≤ 60000) (hE : -100000 ≤ E ∧ E ≤ 100000) :
    Calls Tryz.prog 35 #[.agg #[.bool n, a, .int .i64 E], .int .i64 52, .int .i64 (-1074), .int .i64 2047] w fun e' w' => e' = .returned (.tuple #[.int .i64 ((btV n M E 52 (-1074) 2047 : Nat) : Int), .int .i64 (btS n M E 52 (-1074) 2047)]) ∧ Below w.heap.size w w' := by
  have hS := ha.isS
  have hab := (Below.refl w.heap.size w).alloc (Nat.le_refl _) (.cells #[.bool n, a, .int .i64 E] 69)
  obtain ⟨X, hX⟩ : ∃ X, X = w.alloc (.cells #[.bool n, a, .int .i64 E] 69) := ⟨_, rfl⟩
  have hr1 : X.heap[w.heap.size]? = some (.cells #[.bool n, a, .int .i64 E] 69 (0, 0)) := by rw [hX]; exact row_chain11
  rw [← hX] at hab
  obtain ⟨x0, x1, x2, -, -, -⟩ := row3 hr1
  have HA := Lib.hid (ha.below hab)
  have HR := Lib.hid hr1
  have HB := Lib.hid hab
  have hXs := hab.size
  obtain ⟨hE1, hE2⟩ := hE
  obtain ⟨l, hl⟩ : ∃ l, l = bl M := ⟨_, rfl⟩
  have hll : l ≤ 60000 := by omega
  have hnl : nl M ≤ 60000 := nl_of_bl (by omega)
  obtain ⟨u, hu⟩ : ∃ u, u = btU M E 52 (-1074) := ⟨_, rfl⟩
  have emax : max (-1074 : Int) (E + (l : Int) - 1 - 52) = u := by rw [hu, hl]; rfl
  have hub : -1074 ≤ u ∧ u ≤ 200000 := by omega
  have hQb := btQ_le n M 52 E (-1074)
  have hAb := btA_bd n M E u
  rw [← hu] at hQb
  rw [show (2 : Nat) ^ (52 + 1) = 9007199254740992 from rfl] at hQb
  obtain ⟨d, hd⟩ := Int.eq_ofNat_of_zero_le (show 0 ≤ u - (-1074) by omega)
  have hd2 : u + 1074 = (d : Int) := by omega
  obtain ⟨Q, hQ⟩ : ∃ Q, Q = btQ n M E u := ⟨_, rfl⟩
  obtain ⟨A, hA⟩ : ∃ A, A = btA n M E u := ⟨_, rfl⟩
  have HC := Lib.hid (fun (j : Nat) => cut0 n a M E u (X.drewN j) (HA.out.below (undrewN' (Below.refl _ _))) (by omega) (by omega))
  rw [← hQ, ← hA] at HC
  rw [← hQ] at hQb
  rw [← hA] at hAb
  have HV1 : Hid ((2046 ≤ d ∨ 9218868437227405312 ≤ d * 4503599627370496 + Q) → btV n M E 52 (-1074) 2047 = 9218868437227405312 ∧ btS n M E 52 (-1074) 2047 = if n then -1 else 1) := Lib.hid (fun h => by
    have hi : btI Q u 52 (-1074) 2047 = true := by
      unfold btI
      refine decide_eq_true ?_
      rw [show (u - (-1074)).toNat = d by omega]
      rcases h with h | h
      · exact .inl (by omega)
      · exact .inr (by omega)
    unfold btV btS
    rw [← hu, ← hQ, hi]
    exact ⟨rfl, rfl⟩)
  have HV2 : Hid (¬ 2046 ≤ d → ¬ 9218868437227405312 ≤ d * 4503599627370496 + Q → btV n M E 52 (-1074) 2047 = d * 4503599627370496 + Q ∧ btS n M E 52 (-1074) 2047 = A) := Lib.hid (fun h1 h2 => by
    have hi : btI Q u 52 (-1074) 2047 = false := by
      unfold btI
      refine decide_eq_false ?_
      rw [show (u - (-1074)).toNat = d by omega]
      rintro (h | h)
      · omega
      · omega
    unfold btV btS
    rw [← hu, ← hQ, ← hA, hi, show (u - (-1074)).toNat = d by omega]
    exact ⟨rfl, rfl⟩)
  obtain ⟨BV, hBV⟩ : ∃ BV, BV = btV n M E 52 (-1074) 2047 := ⟨_, rfl⟩
  obtain ⟨BS, hBS⟩ : ∃ BS, BS = btS n M E 52 (-1074) 2047 := ⟨_, rfl⟩
  rw [← hBV, ← hBS] at HV1 HV2
  rw [← hBV, ← hBS]
  obtain ⟨L, hL⟩ : ∃ L, L = nl Q := ⟨_, rfl⟩
  have HLB : L ≤ 4 := by
    rw [hL]
    exact nl_le4 (by omega)
  have HL := Lib.hid hL
  have HLN : Hid (∀ j : Nat, Calls Tryz.prog 68 #[a] (X.drewN j) fun e' w' => e' = .returned (.int .i64 (l : Int)) ∧ w' = X.drewN j) := Lib.hid (fun j => by
    rw [hl]
    exact (spLen a M (X.drewN j) (HA.out.below (undrewN' (Below.refl _ _))) (by omega)).mono (fun _ _ h => ⟨h.1, h.2.symm⟩))
  clear ha hab hr1 hM hu hd hQ hA hBV hBS hL hl
  go_enter Tryz.func35, Tryz.ntmps35
  go_upto_region 1 with fail
  rw [← hX]
  clear hX
  go_quiet ((go_at_call 68; exact Calls.quiet_of_same (HLN.out _)))
  go_wp2_with fail
  refine (HC.out _).mono ?_
  rintro _ w7 ⟨q, rfl, hq, hb7⟩
  have hSq := hq.isS
  have hLq := hq.len
  rw [← HL.out] at hLq
  have HQ := Lib.hid hq
  have hb7 := undrewN hb7
  have HB7 := Lib.hid (HB.out.trans (hb7.mono hXs))
  have h7s := HB7.out.size
  have HR7 := Lib.hid (keep_row hb7 HR.out)
  clear hq hb7 x0 x1 x2
  go_wp2
  go_loopw [13, 14] (fun nv iv wr => ∃ k : Nat, k ≤ L ∧ iv = .int .i64 ((k : Int) - 1) ∧ nv = .int .i64 ((Q / 65536 ^ k : Nat) : Int) ∧ Below w7.heap.size w7 wr) (fun _ iv _ => (intOf iv + 1).toNat)
  case atStart =>
    refine ⟨L, Nat.le_refl _, by go_num, ?_, Below.refl _ _⟩
    have e1 := lt_nl Q
    rw [← HL.out] at e1
    rw [Nat.div_eq_of_lt e1]; rfl
  case round =>
    obtain ⟨k, hk, rfl, rfl, hbl⟩ := hrel
    by_cases hk0 : 0 < k
    · obtain ⟨j, rfl⟩ : ∃ j, k = j + 1 := ⟨k - 1, by omega⟩
      have ca := (HQ.out.below hbl).cell j (by rw [← HL.out]; omega)
      obtain ⟨p, hp⟩ : ∃ p, p = dig Q j := ⟨_, rfl⟩
      have hw := div_pow_step Q j
      have hpb : p < 65536 := by rw [hp]; exact dig_lt _ _
      rw [← hp] at ca hw
      have hu3 : Q / 65536 ^ j ≤ 9007199254740992 := Nat.le_trans (Nat.div_le_self _ _) hQb
      obtain ⟨U, hU⟩ : ∃ U, U = Q / 65536 ^ (j + 1) := ⟨_, rfl⟩
      rw [← hU] at hw ⊢
      obtain ⟨V, hV⟩ : ∃ V, V = Q / 65536 ^ j := ⟨_, rfl⟩
      rw [← hV] at hw hu3
      have HV := Lib.hid hV
      have hw2 : (U : Int) * 65536 + (p : Int) = (V : Int) := by omega
      have hub2 : (U : Int) * 65536 ≤ 9007199254740992 := by omega
      clear hp hU hV hw
      rw [show ((j + 1 : Nat) : Int) - 1 = (j : Int) by omega]
      have t3 : decide ((0:Int) ≤ (j : Int)) = true := by rw [decide_eq_true_iff]; omega
      have hjL : j < L := by omega
      go_wp2
      exact ⟨⟨j, by omega, by go_num, by rw [HV.out], hbl⟩, by simp [intOf]⟩
    · have hk1 : k = 0 := by omega
      subst hk1
      rw [Nat.pow_zero, Nat.div_one]
      obtain ⟨x0, x1, x2, -, -, -⟩ := row3 (keep_row hbl HR7.out)
      have HB8 := Lib.hid (HB7.out.trans (hbl.mono h7s))
      clear hbl
      by_cases h1 : 2046 ≤ d
      · have t1 : decide ((2046 : Int) ≤ (d : Int)) = true := decide_eq_true (by omega)
        have t1' : decide (2046 ≤ d) = true := decide_eq_true h1
        have K := Lib.hid (HV1.out (.inl h1))
        clear h1 HV1 HV2
        cases n
        · go_wp2
          go_quiet (fail)
          go_wp2
          go_ret2
          rw [K.out.1, K.out.2]
          exact ⟨rfl, undrewN' HB8.out⟩
        · go_wp2
          go_quiet (fail)
          go_wp2
          go_ret2
          rw [K.out.1, K.out.2]
          exact ⟨rfl, undrewN' HB8.out⟩
      · have t1 : decide ((2046 : Int) ≤ (d : Int)) = false := decide_eq_false (by omega)
        have t1' : decide (2046 ≤ d) = false := decide_eq_false h1
        have hdb : d ≤ 2045 := by omega
        obtain ⟨D, hD⟩ : ∃ D, D = d * 4503599627370496 := ⟨_, rfl⟩
        have hD2 : (d : Int) * 4503599627370496 = (D : Int) := by omega
        have hDb : D ≤ 9209861237972664320 := by omega
        by_cases h2 : 9218868437227405312 ≤ d * 4503599627370496 + Q
        · have t2 : decide ((9218868437227405312 : Int) ≤ (D : Int) + (Q : Int)) = true := decide_eq_true (by omega)
          have t2' : decide (9218868437227405312 ≤ D + Q) = true := decide_eq_true (by omega)
          have K := Lib.hid (HV1.out (.inr h2))
          clear h1 h2 hD HV1 HV2
          cases n
          · go_wp2
            go_quiet (fail)
            go_wp2
            go_ret2
            rw [K.out.1, K.out.2]
            exact ⟨rfl, undrewN' HB8.out⟩
          · go_wp2
            go_quiet (fail)
            go_wp2
            go_ret2
            rw [K.out.1, K.out.2]
            exact ⟨rfl, undrewN' HB8.out⟩
        · have t2 : decide ((9218868437227405312 : Int) ≤ (D : Int) + (Q : Int)) = false := decide_eq_false (by omega)
          have t2' : decide (9218868437227405312 ≤ D + Q) = false := decide_eq_false (by omega)
          have K := HV2.out h1 h2
          rw [← hD] at K
          have K := Lib.hid K
          have hsum : (D : Int) + (Q : Int) ≤ 9218868437227405312 := by omega
          clear h1 h2 hD HV1 HV2
          go_wp2
          go_quiet (fail)
          go_wp2
          go_ret2
          rw [K.out.1, K.out.2]
          exact ⟨rfl, undrewN' HB8.out⟩
theorem btV_le {n : Bool} {M k T : Nat} {E L : Int} : btV n M E k L T ≤ T * 2 ^ k := by
  unfold btV
  by_cases h : btI (btQ n M E (btU M E k L)) (btU M E k L) k L T = true
  · rw [if_pos h]; exact Nat.le_refl _
  · rw [if_neg h]
    unfold btI at h
    rw [decide_eq_true_iff] at h
    omega
structure FrOk (n : Nat) (b bb : Bool) (ns ds : List Nat) (a1 a2 : Value) (w : World) : Prop where
  sign : bb = b
  l1 : ns.length ≤ n
  l2 : ds.length ≤ n
  pos : 0 < wv ds
  v1 : NatV w a1 (wv ns)
  v2 : NatV w a2 (wv ds)
  low : isFrac b ns ds b (wv ns) (wv ds) = true
  cop : Nat.gcd (wv ns) (wv ds) = 1
theorem FrOk.below {n : Nat} {b bb : Bool} {ns ds : List Nat} {a1 a2 : Value} {w w' : World} (h : FrOk n b bb ns ds a1 a2 w) (hb : Below w.heap.size w w') : FrOk n b bb ns ds a1 a2 w' := ⟨h.sign, h.l1, h.l2, h.pos, h.v1.below hb, h.v2.below hb, h.low, h.cop⟩
def FracV (w : World) (v : Value) (V : Int) (D : Nat) : Prop := ∃ r1 r2, v = .agg #[.bool (decide (V < 0)), r1, r2] ∧ RW w r1 (wds (V.natAbs / Nat.gcd V.natAbs D)) ∧ RW w r2 (wds (D / Nat.gcd V.natAbs D))
def RtI (w : World) (v : Value) (V : Int) (D : Nat) : Prop := ∃ q r, v = .agg #[.bool (decide (V < 0)), q, r] ∧ NatV w q (V.natAbs / Nat.gcd V.natAbs D) ∧ NatV w r (D / Nat.gcd V.natAbs D)
theorem FracV.below {w w' : World} {v : Value} {V : Int} {D : Nat} (h : FracV w v V D) (hb : Below w.heap.size w w') : FracV w' v V D := by
  obtain ⟨r1, r2, h1, h2, h3⟩ := h
  exact ⟨r1, r2, h1, h2.below hb, h3.below hb⟩
theorem RtI.below {w w' : World} {v : Value} {V : Int} {D : Nat} (h : RtI w v V D) (hb : Below w.heap.size w w') : RtI w' v V D := by
  obtain ⟨r1, r2, h1, h2, h3⟩ := h
  exact ⟨r1, r2, h1, h2.below hb, h3.below hb⟩
def foJ (N D : Nat) : Nat := 60 + 1 + bl D - bl N
def foM (N D : Nat) : Nat := 2 * qN N D (foJ N D) + qS N D (foJ N D)
def foV (N D : Nat) : Nat := if N = 0 then 0 else btV false (foM N D) (-(foJ N D : Int) - 1) 52 (-1074) 2047
def foS (N D : Nat) : Int := if N = 0 then 0 else btS false (foM N D) (-(foJ N D : Int) - 1) 52 (-1074) 2047
theorem foV_le (N D : Nat) : foV N D ≤ 9218868437227405312 := by unfold foV; split; omega; exact btV_le
theorem qN_bl (N D k : Nat) : bl (qN N D k) ≤ bl N + k := Nat.le_trans (bl_mono (Nat.div_le_self _ _)) (bl_two N k)
theorem foM_bl {N D : Nat} (hN : bl N ≤ 2000) (hD : bl D ≤ 2000) : bl (foM N D) ≤ 60000 ∧ foJ N D ≤ 3000 := by
  have h1 := qN_bl N D (foJ N D)
  have hJ : foJ N D ≤ 2061 := by unfold foJ; omega
  have h2 : foM N D < 2 ^ (bl (qN N D (foJ N D)) + 1) := by
    have h3 := lt_bl (qN N D (foJ N D))
    have h4 : qS N D (foJ N D) ≤ 1 := by unfold qS; split <;> omega
    unfold foM
    rw [Nat.pow_succ]
    omega
  have h5 := bl_le h2
  omega
theorem foJ_gt {N D : Nat} (h0 : 0 < N) (hD : 0 < D) : 59 < bl (qN N D (foJ N D)) := by
  have hb : bl (N * 2 ^ foJ N D) = bl N + foJ N D := bl_mul h0 _
  have hJ : bl D + 61 ≤ bl N + foJ N D := by unfold foJ; omega
  have h1 := bl_ge (Nat.mul_pos h0 (Nat.two_pow_pos (foJ N D)))
  have h2 := lt_bl D
  rw [hb] at h1
  have h3 : 2 ^ 59 ≤ qN N D (foJ N D) := by
    unfold qN
    rw [Nat.le_div_iff_mul_le hD]
    refine Nat.le_trans (Nat.mul_le_mul_left _ (Nat.le_of_lt h2)) (Nat.le_trans ?_ h1)
    rw [← Nat.pow_add]
    exact Nat.pow_le_pow_right (by decide) (by omega)
  have h4 := bl_mono h3
  have h5 : bl (2 ^ 59) = 60 := bl_of (k := 59) (Nat.le_refl _) (by decide)
  omega
theorem fo_rf {N D : Nat} (hD : 0 < D) (hN : bl N ≤ 2000) (hD2 : bl D ≤ 2000) (h : ¬ (foV N D = 0 ∧ foS N D ≠ 0)) : RfOk N D ∧ rfV N D = foV N D ∧ rfX N D = decide (foS N D = 0) := by
  by_cases h0 : N = 0
  · refine ⟨⟨hN, hD2, fun hc => absurd hc (by omega)⟩, ?_, ?_⟩
    · unfold rfV foV; rw [if_pos h0, if_pos h0]
    · unfold rfX foS; rw [if_pos h0, if_pos h0]; rfl
  · unfold foV foS at h
    rw [if_neg h0, if_neg h0] at h
    obtain ⟨h1, h2, h3, h4⟩ := qf_law (k := 52) (T := 2047) (N := N) (D := D) (j := foJ N D) (L := -1074) (Nat.pos_of_ne_zero h0) hD (by decide) (Nat.lt_trans (by decide) (foJ_gt (Nat.pos_of_ne_zero h0) hD)) (by
      unfold foM at h
      by_cases hc : btV false (2 * qN N D (foJ N D) + qS N D (foJ N D)) (-(foJ N D : Int) - 1) 52 (-1074) 2047 = 0
      · refine .inr ?_
        refine Decidable.byContradiction fun hs => h ⟨hc, hs⟩
      · exact .inl hc)
    refine ⟨⟨hN, hD2, fun _ => ⟨h1, h2⟩⟩, ?_, ?_⟩
    · unfold rfV foV foM; rw [if_neg h0, if_neg h0]; exact h3
    · unfold rfX foS foM; rw [if_neg h0, if_neg h0]; exact h4
set_option maxRecDepth 100000 in
set_option maxHeartbeats 1600000 in
theorem floatOf52 (n : Bool) (a d : Value) (N D : Nat) (w : World) (ha : NatV w a N) (hd : NatV w d D) (hD0 : 0 < D) (hN : bl N ≤ 2000) (hD : bl D ≤ 2000) :
    Calls Tryz.prog 12 #[.agg #[.bool n, a, d], .int .i64 52, .int .i64 (-1074), .int .i64 2047] w fun e w' => e = .returned (.tuple #[.int .i64 (foV N D), .int .i64 (foS N D)]) ∧ Below w.heap.size w w' := by
  have hS1 := ha.isS
  have hS2 := hd.isS
  have hLa := ha.len
  have hab := (Below.refl w.heap.size w).alloc (Nat.le_refl _) (.cells #[.bool n, a, d] 31)
  obtain ⟨X, hX⟩ : ∃ X, X = w.alloc (.cells #[.bool n, a, d] 31) := ⟨_, rfl⟩
  have hr1 : X.heap[w.heap.size]? = some (.cells #[.bool n, a, d] 31 (0, 0)) := by rw [hX]; exact row_chain11
  rw [← hX] at hab
  obtain ⟨x0, x1, x2, -, -, -⟩ := row3 hr1
  have hXs := hab.size
  have HS := Lib.hid (signOf_any n a d N X hS1 hS2 hLa)
  have HA : Hid (∀ w1, Below X.heap.size X w1 → Calls Tryz.prog 36 #[.agg #[.bool false, a, .int .i64 0], .agg #[.bool false, d, .int .i64 0], .int .i64 60] w1 fun e' w' => ∃ c, e' = .returned (.agg #[.bool false, c, .int .i64 (-(foJ N D : Int) - 1)]) ∧ NatV w' c (foM N D) ∧ Below w1.heap.size w1 w') := Lib.hid (fun w1 h1 => by
    refine (ahead_any false false a d 0 0 N D 60 w1 ((ha.below hab).below h1) ((hd.below hab).below h1) (by omega) hD0 (by omega) (by decide) (by decide) (by decide)).mono ?_
    rintro e w' ⟨c, h2, h3, h4⟩
    refine ⟨c, ?_, h3, h4⟩
    rw [h2]
    have : (0 : Int) - 0 - ((60 + 1 + bl D - bl N : Nat) : Int) - 1 = -(foJ N D : Int) - 1 := by unfold foJ; omega
    rw [this]
    rfl)
  have HBT : Hid (∀ c w1, NatV w1 c (foM N D) → Calls Tryz.prog 35 #[.agg #[.bool false, c, .int .i64 (-(foJ N D : Int) - 1)], .int .i64 52, .int .i64 (-1074), .int .i64 2047] w1 fun e' w' => e' = .returned (.tuple #[.int .i64 ((btV false (foM N D) (-(foJ N D : Int) - 1) 52 (-1074) 2047 : Nat) : Int), .int .i64 (btS false (foM N D) (-(foJ N D : Int) - 1) 52 (-1074) 2047)]) ∧ Below w1.heap.size w1 w') := Lib.hid (fun c w1 h => by
    obtain ⟨k1, k2⟩ := foM_bl hN hD
    exact spBits52 false c _ (foM N D) w1 h k1 (by omega))
  have HB := Lib.hid hab
  have HR := Lib.hid hr1
  have HV : Hid (N ≠ 0 → btV false (foM N D) (-(foJ N D : Int) - 1) 52 (-1074) 2047 = foV N D ∧ btS false (foM N D) (-(foJ N D : Int) - 1) 52 (-1074) 2047 = foS N D) := Lib.hid (fun h => by
    unfold foV foS; rw [if_neg h, if_neg h]; exact ⟨rfl, rfl⟩)
  have HV0 : Hid (N = 0 → foV N D = 0 ∧ foS N D = 0) := Lib.hid (fun h => by
    unfold foV foS; rw [if_pos h, if_pos h]; exact ⟨rfl, rfl⟩)
  obtain ⟨E, hE⟩ : ∃ E : Int, E = -(foJ N D : Int) - 1 := ⟨_, rfl⟩
  obtain ⟨M, hM⟩ : ∃ M, M = foM N D := ⟨_, rfl⟩
  obtain ⟨V, hV⟩ : ∃ V, V = foV N D := ⟨_, rfl⟩
  obtain ⟨S, hS⟩ : ∃ S, S = foS N D := ⟨_, rfl⟩
  obtain ⟨g, hg⟩ : ∃ g, g = sg n N := ⟨_, rfl⟩
  have hg0 : (g == 0) = decide (N = 0) := by
    rw [hg]; unfold sg
    by_cases h : N = 0
    · rw [if_pos h, decide_eq_true h]; rfl
    · rw [if_neg h, decide_eq_false h]; cases n <;> rfl
  rw [← hE, ← hM] at HA HBT HV
  rw [← hV, ← hS] at HV HV0
  rw [← hV, ← hS]
  rw [← hg] at HS
  clear ha hd hab hr1 hE hM hV hS hg hN hD hD0 hLa
  go_enter Tryz.func12, Tryz.ntmps12
  go_upto_region 1 with fail
  rw [← hX]
  clear hX
  go_wp2_with fail
  refine HS.out.mono ?_
  rintro _ w1 ⟨rfl, hb1⟩
  obtain ⟨y0, y1, y2, -, -, -⟩ := row3 (keep_row hb1 HR.out)
  have HB1 := Lib.hid hb1
  clear hb1
  by_cases hz : N = 0
  · obtain ⟨k1, k2⟩ := HV0.out hz
    rw [decide_eq_true hz] at hg0
    have HK := Lib.hid (And.intro k1 k2)
    clear hz k1 k2
    go_wp2
    go_ret2
    exact ⟨by rw [HK.out.1, HK.out.2]; rfl, HB.out.trans (HB1.out.mono hXs)⟩
  · obtain ⟨k1, k2⟩ := HV.out hz
    rw [decide_eq_false hz] at hg0
    have HK := Lib.hid (And.intro k1 k2)
    clear hz k1 k2
    go_wp2_with fail
    refine (HA.out w1 HB1.out).mono ?_
    rintro _ w2 ⟨c, rfl, hc, hb2⟩
    have hSc := hc.isS
    have HC := Lib.hid hc
    have HB2 := Lib.hid hb2
    clear hc hb2
    go_wp2_with fail
    refine (HBT.out c w2 HC.out).mono ?_
    rintro _ w3 ⟨rfl, hb3⟩
    have HB3 := Lib.hid hb3
    clear hb3
    go_wp2
    go_ret2
    exact ⟨by (first | rfl | (rw [← HK.out.1, ← HK.out.2]; rfl)), HB.out.trans (((HB1.out.trans (HB2.out.mono HB1.out.size)).trans (HB3.out.mono (Nat.le_trans HB1.out.size HB2.out.size))).mono hXs)⟩
set_option maxRecDepth 100000 in
set_option maxHeartbeats 1600000 in
theorem impRF64 (b : Bool) (v u : Value) (ns ds : List Nat) (w : World) (hv : RW w v ns) (hu : RW w u ds) (l1 : ns.length ≤ 31) (l2 : ds.length ≤ 31) (p1 : 0 < wv ds) (hok : RfOk (wv ns) (wv ds)) (hT : DivW w) :
    Calls Tryz.prog 14 #[.agg #[.bool b, v, u]] w fun e w' => e = .returned (.tuple #[.int .u64 ((rfV (wv ns) (wv ds) + (if b && decide (0 < wv ns) then 9223372036854775808 else 0) : Nat) : Int), .bool (rfX (wv ns) (wv ds))]) ∧ Below w.heap.size w w' := by
  have hS1 := hv.isS
  have hS2 := hu.isS
  have hab := (Below.refl w.heap.size w).alloc (Nat.le_refl _) (.cells #[.bool b, v, u] 26)
  obtain ⟨X, hX⟩ : ∃ X, X = w.alloc (.cells #[.bool b, v, u] 26) := ⟨_, rfl⟩
  have hr1 : X.heap[w.heap.size]? = some (.cells #[.bool b, v, u] 26 (0, 0)) := by rw [hX]; exact row_chain11
  rw [← hX] at hab
  obtain ⟨x0, x1, x2, -, -, -⟩ := row3 hr1
  have hXs := hab.size
  have HF := Lib.hid (rat_any b v u ns ds X (hv.below hab) (hu.below hab) (by omega) (by omega))
  have HC : Hid (∀ g w', RatP w' 0 g (b && decide (0 < wv ns)) (wv ns) (wv ds) → Below X.heap.size X w' → Calls Tryz.prog 39 #[.pointer (some ⟨g, 0, none⟩)] w' fun e w4 => e = .returned (.tuple #[.float .f64 (rfV (wv ns) (wv ds) + if b && decide (0 < wv ns) then 9223372036854775808 else 0), .bool (rfX (wv ns) (wv ds))]) ∧ Below w'.heap.size w' w4) := Lib.hid (fun g w' h1 h3 =>
    ratF64 g _ _ _ w' h1 p1 hok ((hT.below hab).below h3))
  have HB := Lib.hid hab
  obtain ⟨V, hV⟩ : ∃ V, V = rfV (wv ns) (wv ds) + if b && decide (0 < wv ns) then 9223372036854775808 else 0 := ⟨_, rfl⟩
  obtain ⟨Y, hY⟩ : ∃ Y, Y = rfX (wv ns) (wv ds) := ⟨_, rfl⟩
  rw [← hV, ← hY] at HC
  rw [← hV, ← hY]
  clear hV hY hv hu hab hr1 hT hok p1 l1 l2
  go_enter Tryz.func14, Tryz.ntmps14
  go_upto_region 1 with fail
  rw [← hX]
  clear hX
  go_wp2_with fail
  refine HF.out.mono ?_
  rintro _ w1 ⟨g, rfl, hg, hb1⟩
  have HG := Lib.hid (hg.mono (Nat.zero_le _))
  have HB1 := Lib.hid hb1
  clear hg hb1
  go_wp2_with fail
  refine (HC.out g w1 HG.out HB1.out).mono ?_
  rintro _ w2 ⟨rfl, hb2⟩
  have HB2 := Lib.hid hb2
  clear hb2
  go_wp2_with (simp only)
  go_ret2
  exact ⟨rfl, HB.out.trans ((HB1.out.trans (HB2.out.mono HB1.out.size)).mono hXs)⟩
theorem bl_wv {ws : List Nat} (h : ∀ d ∈ ws, d < 18446744073709551616) (hl : ws.length ≤ 31) : bl (wv ws) ≤ 2000 := by
  have h1 : wv ws < (2 ^ 64) ^ ws.length := wv_lt h
  rw [← Nat.pow_mul] at h1
  have := bl_le h1
  omega
theorem isFrac_neg {b : Bool} {ns ds : List Nat} {N D : Nat} (h : isFrac b ns ds b N D = true) : (b && decide (0 < N)) = b := by
  unfold isFrac isNum at h
  simp only [Bool.and_eq_true, beq_iff_eq] at h
  exact h.1.1.symm
set_option maxRecDepth 100000 in
set_option maxHeartbeats 1600000 in
theorem lawRatFloat64 (b : Bool) (v1 v2 : Value) (ns ds : List Nat) (w : World) (_hKar : KarW w) (hT : DivW w) (h1 : RW w v1 ns) (h2 : RW w v2 ds) :
    Calls Tryz.prog 5 #[.agg #[.bool b, v1, v2]] w fun e w' => e = .returned (.bool true) ∧ Below w.heap.size w w' := by
  have hS1 := h1.isS
  have hS2 := h2.isS
  have hab := (Below.refl w.heap.size w).alloc (Nat.le_refl _) (.cells #[.bool b, v1, v2] 26)
  obtain ⟨W, hW⟩ : ∃ W, W = w.alloc (.cells #[.bool b, v1, v2] 26) := ⟨_, rfl⟩
  have hrow : W.heap[w.heap.size]? = some (.cells #[.bool b, v1, v2] 26 (0, 0)) := by rw [hW]; exact box_row (Below.refl _ _)
  rw [← hW] at hab
  obtain ⟨x0, x1, x2, -, -, -⟩ := row3 hrow
  have HR := Lib.hid hrow
  have R1 := Lib.hid (h1.below hab)
  have R2 := Lib.hid (h2.below hab)
  have HTW := Lib.hid (hT.below hab)
  have hWs := hab.size
  clear hrow h1 h2 hT _hKar
  go_enter Tryz.func5, Tryz.ntmps5
  go_upto_region 1 with fail
  rw [← hW]
  clear hW
  go_wp2_with fail
  refine (zzFits3_any b v1 v2 ns ds W R1.out R2.out).mono ?_
  rintro _ w1 ⟨rfl, hb1⟩
  obtain ⟨y0, y1, y2, -, -, -⟩ := row3 (keep_row hb1 HR.out)
  have bb1 := hab.trans (hb1.mono hWs)
  obtain ⟨fits, hfits⟩ : ∃ f, f = (decide (ns.length ≤ 2147483647) && decide (ds.length ≤ 2147483647)) := ⟨_, rfl⟩
  rw [← hfits]
  clear hfits
  have HB1 := Lib.hid hb1
  clear hb1
  cases fits with
  | false =>
    go_wp2
    go_ret
    exact ⟨rfl, bb1⟩
  | true =>
    go_wp2_with fail
    refine (fraction_any b v1 v2 30 ns ds w1 (R1.out.below HB1.out) (R2.out.below HB1.out) (by decide)).mono ?_
    rintro _ w2 ⟨_, rfl, bb, a1, a2, ok, rfl, hA1, hA2, hb2, hok⟩
    have HOK := Lib.hid hok
    have HB2 := Lib.hid (bthen HB1.out hb2)
    clear hok hb2
    have hr2 := keep_row HB2.out HR.out
    have ha3 := (Below.refl w2.heap.size w2).alloc (Nat.le_refl _) (.cells #[.bool bb, a1, a2] 31)
    obtain ⟨X, hX⟩ : ∃ X, X = w2.alloc (.cells #[.bool bb, a1, a2] 31) := ⟨_, rfl⟩
    have hrX : X.heap[w2.heap.size]? = some (.cells #[.bool bb, a1, a2] 31 (0, 0)) := by rw [hX]; exact box_row (Below.refl _ _)
    rw [← hX] at ha3
    have HX := Lib.hid hX
    clear hX
    have hrF := keep_row ha3 hr2
    obtain ⟨c0, c1, c2, -, -, -⟩ := row3 hrF
    obtain ⟨d0, d1, d2, -, -, -⟩ := row3 hrX
    have hWX := bthen HB2.out ha3
    have hwX := hab.trans (hWX.mono hWs)
    cases ok with
    | false =>
      go_wp2
      go_ret
      refine ⟨rfl, ?_⟩
      rw [← HX.out]
      exact hwX
    | true =>
      obtain ⟨hbb, hn30, hd30, hdp, hfr, -, hN1, hN2⟩ := HOK.out rfl
      subst hbb
      have Q1 := Lib.hid (R1.out.below hWX)
      have Q2 := Lib.hid (R2.out.below hWX)
      have N1 := Lib.hid (hN1.below ha3)
      have N2 := Lib.hid (hN2.below ha3)
      have TX := Lib.hid (HTW.out.below hWX)
      have bn : bl (wv ns) ≤ 2000 := bl_wv R1.out.lt (by omega)
      have bd : bl (wv ds) ≤ 2000 := bl_wv R2.out.lt (by omega)
      have hbn := isFrac_neg hfr
      have HFO := Lib.hid (floatOf52 bb a1 a2 (wv ns) (wv ds) X N1.out N2.out hdp bn bd)
      have HPL : Hid (¬ (foV (wv ns) (wv ds) = 0 ∧ foS (wv ns) (wv ds) ≠ 0) → RfOk (wv ns) (wv ds) ∧ rfV (wv ns) (wv ds) = foV (wv ns) (wv ds) ∧ rfX (wv ns) (wv ds) = decide (foS (wv ns) (wv ds) = 0)) := Lib.hid (fo_rf hdp bn bd)
      have HIM : Hid (RfOk (wv ns) (wv ds) → ∀ w', Below X.heap.size X w' → Calls Tryz.prog 14 #[.agg #[.bool bb, v1, v2]] w' fun e w4 => e = .returned (.tuple #[.int .u64 ((rfV (wv ns) (wv ds) + (if bb then 9223372036854775808 else 0) : Nat) : Int), .bool (rfX (wv ns) (wv ds))]) ∧ Below w'.heap.size w' w4) := Lib.hid (fun ho w' h => by
        have := impRF64 bb v1 v2 ns ds w' (Q1.out.below h) (Q2.out.below h) (by omega) (by omega) hdp ho (TX.out.below h)
        rw [hbn] at this
        exact this)
      have hfl := foV_le (wv ns) (wv ds)
      obtain ⟨V, hV⟩ : ∃ V, V = foV (wv ns) (wv ds) := ⟨_, rfl⟩
      obtain ⟨S, hSS⟩ : ∃ S, S = foS (wv ns) (wv ds) := ⟨_, rfl⟩
      rw [← hV] at HFO HPL hfl
      rw [← hSS] at HFO HPL
      have HWX := Lib.hid hwX
      have HRF := Lib.hid hrF
      have HRX := Lib.hid hrX
      have hXz := hwX.size
      clear hN1 hN2 hfr hn30 hd30 hdp bn bd hV hSS hbn hwX hrF hrX hr2 ha3 hWX
      go_wp2_with fail
      rw [← HX.out]
      refine HFO.out.mono ?_
      rintro _ w3 ⟨rfl, hb3⟩
      obtain ⟨e0, e1, e2, -, -, -⟩ := row3 (keep_row hb3 HRF.out)
      obtain ⟨g0, g1, g2, -, -, -⟩ := row3 (keep_row hb3 HRX.out)
      have HB3 := Lib.hid hb3
      clear hb3
      by_cases hz : V = 0 ∧ S ≠ 0
      · obtain ⟨z1, z2⟩ := hz
        have t1 : ((V : Int) == 0) = true := by rw [z1]; rfl
        have t2 : (S != 0) = true := by unfold bne; rw [beq_eq_false_iff_ne.2 z2]; rfl
        clear z1 z2
        go_wp2
        go_ret
        exact ⟨rfl, HWX.out.trans (HB3.out.mono hXz)⟩
      · obtain ⟨k1, k2, k3⟩ := HPL.out hz
        have HI := Lib.hid (HIM.out k1)
        rw [k2, k3] at HI
        have HZ := Lib.hid (And.intro k2 k3)
        clear k1 k2 k3
        have t0 : (V : Int) = 0 → (S != 0) = false := fun h => by
          unfold bne
          rw [show (S == 0) = true from beq_iff_eq.2 (Decidable.byContradiction fun hs => hz ⟨by omega, hs⟩)]
          rfl
        clear hz
        obtain ⟨z, hzz⟩ : ∃ z, z = ((V : Int) == 0) := ⟨_, rfl⟩
        have t1 : z = true → (S != 0) = false := fun h => t0 (by rw [h] at hzz; exact (beq_iff_eq.1 hzz.symm))
        have t2 : ((V : Int) == 0) = z := hzz.symm
        clear t0 hzz
        have hVb : V < 18446744073709551616 := by omega
        have e1 : IntKind.u64.wrap (V : Int) = (V : Int) := by rw [IntKind.wrap_u64]; omega
        obtain ⟨V2, hV2⟩ : ∃ V2, V2 = V + 9223372036854775808 := ⟨_, rfl⟩
        have e2 : (V : Int) + 9223372036854775808 = (V2 : Int) := by omega
        have e3 : IntKind.u64.wrap (V2 : Int) = (V2 : Int) := by rw [IntKind.wrap_u64]; omega
        have HI2 : Hid (∀ w', Below X.heap.size X w' → Calls Tryz.prog 14 #[.agg #[.bool bb, v1, v2]] w' fun e w4 => e = .returned (.tuple #[.int .u64 ((if bb then V2 else V : Nat) : Int), .bool (decide (S = 0))]) ∧ Below w'.heap.size w' w4) := Lib.hid (fun w' h => by
          refine (HI.out w' h).mono ?_
          rintro e w4 ⟨h1, h2⟩
          refine ⟨?_, h2⟩
          rw [h1]
          cases bb
          · rfl
          · rw [hV2]; rfl)
        have e4 : (decide (S = 0) == (S == 0)) = true := by
          by_cases h : S = 0
          · rw [h]; rfl
          · rw [decide_eq_false h, beq_eq_false_iff_ne.2 h]; rfl
        clear hV2 HI hfl
        have HBW : Hid (∀ w4, Below w3.heap.size w3 w4 → Below w.heap.size w w4) := Lib.hid (fun w4 h => HWX.out.trans (((HB3.out).trans (h.mono HB3.out.size)).mono hXz))
        cases z with
        | true =>
          have t3 := t1 rfl
          clear t1
          cases bb with
          | true =>
            go_wp2_with fail
            refine (HI2.out w3 HB3.out).mono ?_
            rintro _ w4 ⟨rfl, hb4⟩
            obtain ⟨q0, q1, q2, -, -, -⟩ := row3 (keep_row hb4 (keep_row HB3.out HRX.out))
            have HB4 := Lib.hid (HBW.out w4 hb4)
            clear hb4
            go_wp2
            go_ret
            exact ⟨rfl, HB4.out⟩
          | false =>
            go_wp2_with fail
            refine (HI2.out w3 HB3.out).mono ?_
            rintro _ w4 ⟨rfl, hb4⟩
            obtain ⟨q0, q1, q2, -, -, -⟩ := row3 (keep_row hb4 (keep_row HB3.out HRX.out))
            have HB4 := Lib.hid (HBW.out w4 hb4)
            clear hb4
            go_wp2
            go_ret
            exact ⟨rfl, HB4.out⟩
        | false =>
          clear t1
          cases bb with
          | true =>
            go_wp2_with fail
            refine (HI2.out w3 HB3.out).mono ?_
            rintro _ w4 ⟨rfl, hb4⟩
            obtain ⟨q0, q1, q2, -, -, -⟩ := row3 (keep_row hb4 (keep_row HB3.out HRX.out))
            have HB4 := Lib.hid (HBW.out w4 hb4)
            clear hb4
            go_wp2
            go_ret
            exact ⟨rfl, HB4.out⟩
          | false =>
            go_wp2_with fail
            refine (HI2.out w3 HB3.out).mono ?_
            rintro _ w4 ⟨rfl, hb4⟩
            obtain ⟨q0, q1, q2, -, -, -⟩ := row3 (keep_row hb4 (keep_row HB3.out HRX.out))
            have HB4 := Lib.hid (HBW.out w4 hb4)
            clear hb4
            go_wp2
            go_ret
            exact ⟨rfl, HB4.out⟩
end Go.Proofs.YtoddjkpckpekcaaGreatDoor
