/-
Texts of this proof, joined: BsB DvD DvE DlC. No condition.
-/
import Derived.Test.YtllhnjpnkmjopaaGreatDoorK09
import Derived.Test.YtllhnjpnkmjopaaGreatDoorK10
import Derived.Test.YtllhnjpnkmjopaaGreatDoorK12
import Derived.Test.YtllhnjpnkmjopaaGreatDoorK19
import Derived.Deep.RegionHeld3
namespace Go.Proofs.YtllhnjpnkmjopaaGreatDoor
open Go.RowKit

theorem bs_step {P S T b d lo hi B2 Bi : Nat} (h : P * P = S + 2 * T) (hd : d * d = lo + b * hi) (hB : B2 = Bi * Bi) : (P + Bi * d) * (P + Bi * d) = (S + B2 * (lo + b * hi)) + 2 * (T + Bi * (P * d)) := by
  subst hB
  rw [← hd]
  have e : (P + Bi * d) * (P + Bi * d) = P * P + 2 * (Bi * (P * d)) + Bi * Bi * (d * d) := by
    have h1 : P * (Bi * d) = Bi * (P * d) := by rw [← Nat.mul_assoc, Nat.mul_comm P Bi, Nat.mul_assoc]
    have h2 : (Bi * d) * P = Bi * (P * d) := by rw [Nat.mul_assoc, Nat.mul_comm d P]
    have h3 : (Bi * d) * (Bi * d) = Bi * Bi * (d * d) := by rw [Nat.mul_assoc, Nat.mul_assoc, Nat.mul_left_comm d Bi d]
    rw [Nat.add_mul, Nat.mul_add, Nat.mul_add, h1, h2, h3]
    omega
  rw [e, h]
  omega
theorem bs_bound {b i T P d : Nat} (hb : 2 ≤ b) (_hi : 0 < i) (hT : T < b ^ (2 * i)) (hP : P < b ^ i) (hd : d < b) : T + b ^ i * (P * d) < b ^ (2 * (i + 1) - 1) := by
  have e1 : b ^ (2 * i) = b ^ i * b ^ i := by rw [← Nat.pow_add]; congr 1; omega
  have e2 : b ^ (2 * (i + 1) - 1) = b ^ i * b ^ i * b := by rw [← e1, ← Nat.pow_succ]; congr 1
  rw [e2]
  rw [e1] at hT
  obtain ⟨C, hC⟩ : ∃ C, C = b ^ i := ⟨_, rfl⟩
  rw [← hC] at hT hP ⊢
  have h1 : P * d ≤ (C - 1) * (b - 1) := Nat.mul_le_mul (by omega) (by omega)
  obtain ⟨c, rfl⟩ : ∃ c, C = c + 1 := ⟨C - 1, by omega⟩
  obtain ⟨e, rfl⟩ : ∃ e, b = e + 2 := ⟨b - 2, by omega⟩
  rw [show c + 1 - 1 = c by omega, show e + 2 - 1 = e + 1 by omega] at h1
  have h2 := Nat.mul_le_mul_left (c + 1) h1
  have h3 : (c + 1) * (c + 1) * (e + 2) = (c + 1) * (c * (e + 1)) + (c + 1) * (c + 1) + (c + 1) * (e + 1) := by
    rw [Nat.mul_assoc, ← Nat.mul_add, ← Nat.mul_add]
    congr 1
    rw [Nat.mul_add (c + 1), Nat.add_mul c 1 e, Nat.mul_add c e 1]
    omega
  omega
theorem bs_next {xs : List Nat} {I d Sq T lo hi : Nat} (hI1 : 1 ≤ I) (hI : I < xs.length) (hlt : ∀ e ∈ xs, e < 18446744073709551616) (hd : d = xs.getD I 0) (hP : wv (xs.take I) * wv (xs.take I) = Sq + 2 * T) (hS : Sq < 18446744073709551616 ^ (2 * I)) (hT : T < 18446744073709551616 ^ (2 * I - 1)) (h0 : T % 18446744073709551616 = 0)
    (hdd : d * d = lo + 18446744073709551616 * hi) :
    wv (xs.take (I + 1)) * wv (xs.take (I + 1)) = (Sq + 18446744073709551616 ^ (2 * I) * (lo + 18446744073709551616 * hi)) + 2 * (T + 18446744073709551616 ^ I * (wv (xs.take I) * d)) ∧ Sq + 18446744073709551616 ^ (2 * I) * (lo + 18446744073709551616 * hi) < 18446744073709551616 ^ (2 * (I + 1)) ∧
    T + 18446744073709551616 ^ I * (wv (xs.take I) * d) < 18446744073709551616 ^ (2 * (I + 1) - 1) ∧ (T + 18446744073709551616 ^ I * (wv (xs.take I) * d)) % 18446744073709551616 = 0 := by
  have hdl : d < 18446744073709551616 := by
    rw [hd, List.getD_eq_getElem?_getD, List.getElem?_eq_getElem hI]; exact hlt _ (List.getElem_mem _)
  have ht : xs.take (I + 1) = xs.take I ++ [d] := by
    rw [hd, List.getD_eq_getElem?_getD, List.take_add_one, List.getElem?_eq_getElem hI]; rfl
  have hPl : wv (xs.take I) < 18446744073709551616 ^ I := by
    have := wv_lt (fun e he => hlt e (List.mem_of_mem_take he) : ∀ e ∈ xs.take I, e < 18446744073709551616)
    rw [List.length_take, Nat.min_eq_left (by omega)] at this
    exact this
  have hT2 : T < 18446744073709551616 ^ (2 * I) := Nat.lt_of_lt_of_le hT (Nat.pow_le_pow_right (by decide) (by omega))
  refine ⟨?_, ?_, ?_, ?_⟩
  · rw [ht, wv_snoc, List.length_take, Nat.min_eq_left (by omega)]
    exact bs_step hP hdd (by rw [← Nat.pow_add]; congr 1; omega)
  · have h1 : d * d ≤ 18446744073709551615 * 18446744073709551615 := Nat.mul_le_mul (by omega) (by omega)
    rw [← hdd]
    rw [show 2 * (I + 1) = 2 * I + 2 by omega, Nat.pow_add]
    obtain ⟨C, hC⟩ : ∃ C, C = 18446744073709551616 ^ (2 * I) := ⟨_, rfl⟩
    rw [← hC] at hS ⊢
    obtain ⟨e, he⟩ : ∃ e, e = d * d := ⟨_, rfl⟩
    rw [← he] at h1 ⊢
    have h2 : C * e ≤ C * (18446744073709551615 * 18446744073709551615) := Nat.mul_le_mul_left _ h1
    have h3 : (18446744073709551616 : Nat) ^ 2 = 18446744073709551615 * 18446744073709551615 + 1 + 36893488147419103230 := by decide
    rw [h3, Nat.mul_add, Nat.mul_add]
    omega
  · exact bs_bound (by decide) hI1 hT2 hPl hdl
  · obtain ⟨j, rfl⟩ : ∃ j, I = j + 1 := ⟨I - 1, by omega⟩
    rw [Nat.pow_succ, Nat.mul_comm (18446744073709551616 ^ j), Nat.mul_assoc, Nat.add_mul_mod_self_left]
    exact h0
def BsP (z : Value) (X B s n : Nat) (o0 : Option (Nat × Value)) (w0 w' : World) : Prop :=
  ∃ o', StO w' B s 0 o' ∧ (∀ k, SBk s o' k → SBk s o0 k ∨ w0.heap.size ≤ k) ∧ Own w' B 116 z (cellsW (wdsN (X * X) (2 * n))) ∧ Below B w0 w' ∧ (∀ k, k < w0.heap.size → ¬ SBk s o0 k → k ≠ sBlk z → w'.heap[k]? = w0.heap[k]?)
set_option maxRecDepth 100000 in
set_option maxHeartbeats 3200000 in
theorem basicSqr_any (z x : Value) (os : List Value) (xs : List Nat) (n B s : Nat) (o : Option (Nat × Value)) (w : World) (hst : StO w B s 0 o) (hz : Own w B 116 z os) (hx : RW w x xs) (hxn : xs.length = n) (hos : os.length = 2 * n) (hxz : sBlk x ≠ sBlk z) (hzS : ¬ SBk s o (sBlk z)) (hxS : ¬ SBk s o (sBlk x))
    (h12 : 12 ≤ n) (h80 : n < 80) (hB : B ≤ w.heap.size) (hK : SqrW w) :
    Calls Tryz.prog 169 #[.pointer (some ⟨s, 0, none⟩), z, x] w fun e w' => e = .returned (.tuple #[]) ∧ BsP z (wv xs) B s n o w w' := by
  have hSz := hz.isS
  have hSx := hx.isS
  have hLx : sLen x = n := by rw [hx.len, hxn]
  have hLz : sLen z = 2 * n := by rw [hz.len, hos]
  have hcz : 2 * n ≤ sCap z := by have := hSz.le; omega
  have hcx : n ≤ sCap x := by have := hSx.le; omega
  have t1 : decide ((n : Int) < 12) = false := decide_eq_false (by omega)
  have t1' : decide (n < 12) = false := decide_eq_false (by omega)
  obtain ⟨kc1, -⟩ := hK
  obtain ⟨N, hN⟩ : ∃ N, N = 2 * n := ⟨_, rfl⟩
  have e1 : 2 * (n : Int) = (N : Int) := by omega
  obtain ⟨d0, hd0⟩ : ∃ d, d = xs.getD 0 0 := ⟨_, rfl⟩
  have hc0 := hx.cell 0 (by omega)
  rw [← hd0, Nat.add_zero] at hc0
  have hd0l : d0 < 18446744073709551616 := by
    rw [hd0, List.getD_eq_getElem?_getD, List.getElem?_eq_getElem (by omega)]
    exact hx.lt _ (List.getElem_mem _)
  have HSV := Lib.hid (save_any s B 0 o w hst)
  have HNA := Lib.hid (nat_any s N B 0 o w hst hB (by omega) (by omega) (by omega))
  have HST := Lib.hid hst
  have HZ := Lib.hid hz
  have HX := Lib.hid hx
  have HG := Lib.hid (And.intro hxz (And.intro hzS (And.intro hxS (And.intro hxn hos))))
  have HNN := Lib.hid hN
  have HD0 := Lib.hid hd0
  have hNb : N < 160 := by omega
  clear hst hz hx hxz hzS hxS hxn hos hN hd0 hB
  go_enter_defers Tryz.func169, Tryz.ntmps169
  go_wp2_with fail
  refine HSV.out.mono ?_
  rintro _ _ ⟨rfl, rfl⟩
  go_wp2_with fail
  refine HNA.out.mono ?_
  rintro _ w1 ⟨t, o1, L1, rfl, hnt⟩
  obtain ⟨ts, htl, hto⟩ := hnt.own
  have hSt := hto.isS
  have hLt : sLen t = N := by rw [hto.len, htl]
  have hct : N ≤ sCap t := by have := hSt.le; omega
  have HNT := Lib.hid hnt
  have HTO := Lib.hid hto
  have HTL := Lib.hid htl
  clear hnt hto htl kc1
  go_wp2_with (refine wpList_clear_O (o := ⟨none, _, _, _, _, _⟩) rfl (.tmp 26) 108 rfl elemT rfl t rfl B _ HTO.out ?_)
  intro w2 ho2 hb2 hf2
  have hzN : sBlk z ≠ sBlk t := fun he => by
    rcases HNT.out.at' (by omega) with h | h
    · rcases HNT.out.sb _ h with h | h
      · exact HG.out.2.1 (he ▸ h)
      · have := (HZ.out.lt (by omega)).2; omega
    · have := (HZ.out.lt (by omega)).2; omega
  have hxl : sBlk x < w.heap.size := HX.out.ri.lt (by rw [ints_length]; have := HG.out.2.2.2.1; omega)
  have hxN : sBlk x ≠ sBlk t := fun he => by
    rcases HNT.out.at' (by omega) with h | h
    · rcases HNT.out.sb _ h with h | h
      · exact HG.out.2.2.1 (he ▸ h)
      · omega
    · omega
  have hfz := HNT.out.frame _ (HZ.out.lt (by omega)).2 HG.out.2.1
  have hfx := HNT.out.frame _ hxl HG.out.2.2.1
  rw [HTL.out] at ho2 hf2
  have C0 : Hid (Bq B s L1 n z x t xs o o1 0 0 0 w w2) := Lib.hid (by
    have hx1 : RW w1 x xs := ⟨⟨HX.out.isS, HX.out.ri.len, fun j hj => (World.cell?_of_block hfx).trans (HX.out.ri.cell j hj)⟩, HX.out.lt⟩
    have hz0 : List.replicate N (Value.int .u64 0) = cellsW (wdsN 0 (2 * n)) := by
      rw [← HNN.out, cellsW_zeros]
      congr 1
      exact wdsN_of (by simp) (fun j hj => by
        rw [List.getD_eq_getElem?_getD, List.getElem?_replicate, if_pos hj]; simp [wdg])
    have hcT : 0 < sCap t := by omega
    refine ⟨HNT.out.st.frb hf2 (HTO.out.rowOf hcT), hf2.rw hx1 (fun he => absurd he hxN), ⟨os, HG.out.2.2.2.2, by simp [wdsN, cellsW], (HZ.out.same fun _ => hfz).same fun _ => hf2.only _ (Nat.lt_of_lt_of_le (HZ.out.lt (by omega)).2 HNT.out.below.size) hzN⟩, by rw [← hz0]; exact ho2, hzN, HG.out.1, hxN, fun hk => ?_, (HNT.out.at' hcT), HNT.out.below.trans hb2, HNT.out.sb, fun k hk h1 h2 => ?_⟩
    · rcases HNT.out.sb _ hk with h | h
      · exact HG.out.2.1 h
      · have := (HZ.out.lt (by omega)).2; omega
    · refine (hf2.only k (Nat.lt_of_lt_of_le hk HNT.out.below.size) fun he => ?_).trans (HNT.out.frame k hk h1)
      rcases HNT.out.at' hcT with h | h
      · rcases HNT.out.sb _ h with h | h
        · exact h1 (he ▸ h)
        · omega
      · omega)
  have hcx0 := C0.out.hx.cell 0 (by have := HG.out.2.2.2.1; omega)
  rw [← HD0.out, Nat.add_zero] at hcx0
  have hL1 := HNT.out.le
  clear ho2 hb2 hf2 hfz hfx HTO HTL
  have hQo : ∀ w', (Ending.outgrown = Ending.returned (.tuple #[]) ∧ BsP z (wv xs) B s n o w w') → False := fun _ h => by cases h.1
  have hmw : ∀ W, Calls Tryz.prog 166 #[.int .u64 d0, .int .u64 d0] W fun e w' => e = .returned (.tuple #[.int .u64 ((d0 * d0 / 18446744073709551616 : Nat) : Int), .int .u64 ((d0 * d0 % 18446744073709551616 : Nat) : Int)]) ∧ w' = W := fun W => mulWW_any d0 d0 W hd0l hd0l
  obtain ⟨hi, hhi⟩ : ∃ hi, hi = d0 * d0 / 18446744073709551616 := ⟨_, rfl⟩
  obtain ⟨lo, hlo⟩ : ∃ lo, lo = d0 * d0 % 18446744073709551616 := ⟨_, rfl⟩
  rw [← hhi, ← hlo] at hmw
  have HMW := Lib.hid hmw
  have hhl : hi < 18446744073709551616 := by rw [hhi, Nat.div_lt_iff_lt_mul (by decide)]; exact Nat.mul_lt_mul'' hd0l hd0l
  have hll : lo < 18446744073709551616 := by rw [hlo]; exact Nat.mod_lt _ (by decide)
  have hdd : d0 * d0 = lo + 18446744073709551616 * hi := by
    have := Nat.div_add_mod (d0 * d0) 18446744073709551616
    omega
  have HDD := Lib.hid (And.intro hdd (And.intro hhl hll))
  clear hmw hhi hlo hdd hhl hll
  go_upto_region 6 with fail
  refine wp_region_noPanic ?_
  refine wp_region_hoist 8 (by kernel_rfl) (by kernel_rfl) ⟨fun _ _ _ h => h, fun _ w' h => hQo w' h⟩ ?_
  simp only [List.take_succ_cons, List.take_zero, List.drop_succ_cons, List.drop_zero]
  repeat (go_big_quiet_step (fail))
  refine wpQuiet_nil ?_
  rintro _ ⟨nq, rfl⟩
  go_wp2_with fail
  refine (HMW.out _).mono ?_
  rintro _ _ ⟨rfl, rfl⟩
  obtain ⟨⟨u0, u1, q0, q1, f0, f1⟩, hC1⟩ := (C0.out.drewN nq).setz (lo := lo) (hi' := hi) (by omega) (by decide) HDD.out.2.2 HDD.out.2.1
  simp only [Nat.mul_zero, Nat.zero_add, Nat.add_zero, Nat.pow_zero, Nat.one_mul] at q0 q1 f0 f1 hC1
  have C1 := Lib.hid hC1
  clear hC1
  go_wp2_with fail
  refine NoPanic.normal ?_
  obtain ⟨w3, hw3⟩ : ∃ w3, w3 = ((w2.drewN nq).setCell ⟨sBlk z, sOff z + 1, none⟩ (.int .u64 (hi : Int))).setCell ⟨sBlk z, sOff z, none⟩ (.int .u64 (lo : Int)) := ⟨_, rfl⟩
  rw [← hw3] at C1 ⊢
  clear hw3 q0 q1 f0 f1 hcx0 C0 HMW
  go_wp2
  go_loopw [8] (fun i wr => ∃ I Sq T : Nat, 1 ≤ I ∧ I ≤ n ∧ i = .int .i64 I ∧ Bq B s L1 n z x t xs o o1 I Sq T w wr ∧ wv (xs.take I) * wv (xs.take I) = Sq + 2 * T ∧ Sq < 18446744073709551616 ^ (2 * I) ∧ T < 18446744073709551616 ^ (2 * I - 1) ∧ T % 18446744073709551616 = 0) (fun i _ => n - (intOf i).toNat)
  case atStart =>
    refine ⟨1, _, 0, Nat.le_refl _, by omega, rfl, C1.out, ?_, ?_, by decide, rfl⟩
    · have hx1 : xs.take 1 = [d0] := by
        match xs, HD0.out, HG.out.2.2.2.1 with
        | [], _, h => simp at h; omega
        | a :: r, h, _ => simp at h; rw [h]; rfl
      rw [hx1]
      have e := HDD.out.1
      simp only [wv]
      omega
    · have := HDD.out
      have h1 : d0 * d0 < 18446744073709551616 * 18446744073709551616 := Nat.mul_lt_mul'' hd0l hd0l
      have e : (18446744073709551616 : Nat) ^ (2 * 1) = 18446744073709551616 * 18446744073709551616 := rfl
      omega
  case round =>
    obtain ⟨I, Sq, T, hI1, hIn, rfl, hC, hP, hSl, hTl, hT0⟩ := hrel
    have HC := Lib.hid hC
    have HP := Lib.hid (And.intro hP (And.intro hSl (And.intro hTl hT0)))
    clear hC hP hSl hTl hT0
    by_cases hI : I < n
    · obtain ⟨d, hd⟩ : ∃ d, d = xs.getD I 0 := ⟨_, rfl⟩
      have hcI := HC.out.hx.cell I (by have := HG.out.2.2.2.1; omega)
      rw [← hd] at hcI
      have hdl : d < 18446744073709551616 := by
        rw [hd, List.getD_eq_getElem?_getD, List.getElem?_eq_getElem (by have := HG.out.2.2.2.1; omega)]
        exact HX.out.lt _ (List.getElem_mem _)
      have hmw : ∀ W, Calls Tryz.prog 166 #[.int .u64 d, .int .u64 d] W fun e w' => e = .returned (.tuple #[.int .u64 ((d * d / 18446744073709551616 : Nat) : Int), .int .u64 ((d * d % 18446744073709551616 : Nat) : Int)]) ∧ w' = W := fun W => mulWW_any d d W hdl hdl
      obtain ⟨hi2, hhi⟩ : ∃ hi, hi = d * d / 18446744073709551616 := ⟨_, rfl⟩
      obtain ⟨lo2, hlo⟩ : ∃ lo, lo = d * d % 18446744073709551616 := ⟨_, rfl⟩
      rw [← hhi, ← hlo] at hmw
      have HMW := Lib.hid hmw
      have hhl : hi2 < 18446744073709551616 := by rw [hhi, Nat.div_lt_iff_lt_mul (by decide)]; exact Nat.mul_lt_mul'' hdl hdl
      have hll : lo2 < 18446744073709551616 := by rw [hlo]; exact Nat.mod_lt _ (by decide)
      have hdd : d * d = lo2 + 18446744073709551616 * hi2 := by
        have := Nat.div_add_mod (d * d) 18446744073709551616
        omega
      have HNX := Lib.hid (bs_next hI1 (by have := HG.out.2.2.2.1; omega) HX.out.lt hd HP.out.1 HP.out.2.1 HP.out.2.2.1 HP.out.2.2.2 hdd)
      obtain ⟨⟨u0, u1, q0, q1, f0, f1⟩, hC1⟩ := HC.out.setz (lo := lo2) (hi' := hi2) hI HP.out.2.1 hll hhl
      obtain ⟨J, hJ⟩ : ∃ J, J = 2 * I := ⟨_, rfl⟩
      obtain ⟨J1, hJ1⟩ : ∃ J1, J1 = 2 * I + 1 := ⟨_, rfl⟩
      rw [← hJ1] at q0 f0 hC1
      rw [← hJ] at q1 f1 hC1
      have e2 : 2 * (I : Int) = (J : Int) := by omega
      have e3 : (J : Int) + 1 = (J1 : Int) := by omega
      obtain ⟨w4, hw4⟩ : ∃ w4, w4 = ((wr.setCell ⟨sBlk z, sOff z + J1, none⟩ (.int .u64 (hi2 : Int))).setCell ⟨sBlk z, sOff z + J, none⟩ (.int .u64 (lo2 : Int))) := ⟨_, rfl⟩
      rw [← hw4] at hC1
      have HW4 := Lib.hid hw4
      have HA : Hid (∀ kk, IsS (subS t I J) ∧ IsS (subS x 0 I) ∧ Calls Tryz.prog 201 #[subS t I J, subS t I J, subS x 0 I, .int .u64 d, .int .u64 0] (w4.drewN kk) fun e w' => ∃ c : Nat, e = .returned (.int .u64 c) ∧ (∃ u, w'.cell? ⟨sBlk t, sOff t + J, none⟩ = some u ∧ w'.frozen? ⟨sBlk t, sOff t + J, none⟩ = false) ∧
          Bq B s L1 n z x t xs o o1 (I + 1) (Sq + 18446744073709551616 ^ J * (lo2 + 18446744073709551616 * hi2)) (T + 18446744073709551616 ^ I * (wv (xs.take I) * d)) w (w'.setCell ⟨sBlk t, sOff t + J, none⟩ (.int .u64 (c : Int)))) := Lib.hid (fun kk => by
        rw [hJ]
        rw [hJ] at hC1
        exact (hC1.drewN kk).addt (i := I) (d := d) hI1 hI HG.out.2.2.2.1 (by omega) hdl (Nat.lt_of_lt_of_le HP.out.2.2.1 (Nat.pow_le_pow_right (by decide) (by omega))))
      obtain ⟨hsA, hsB, -⟩ := HA.out 0
      have hJN : J ≤ N := by have := HNN.out; omega
      have hJ1N : J1 < N := by have := HNN.out; omega
      have hJz : J < sLen z := by omega
      have hJ1z : J1 < sLen z := by have := HNN.out; omega
      have hJt : J < sLen t := by have := HNN.out; omega
      have hIJ : I ≤ J := by omega
      have HJ := Lib.hid hJ
      clear hd hhi hlo hhl hll hdd hC1 hJ hJ1 hw4 hdl hmw
      go_wp2_with fail
      refine (HMW.out _).mono ?_
      rintro _ _ ⟨rfl, rfl⟩
      go_upto_region 12 with fail
      rw [← HW4.out]
      clear q0 q1 f0 f1 HW4 hcI
      have ew1 : IntKind.i64.wrap (2 * (I : Int)) = (J : Int) := by rw [e2, IntKind.wrap_i64]; omega
      have g0 : (0 : Int) ≤ (I : Int) := by omega
      have g1 : (I : Int) ≤ (J : Int) := by omega
      have g2 : (J : Int) ≤ (sCap t : Int) := by omega
      have g3 : (I : Int) ≤ (sCap x : Int) := by omega
      have g4 : (0 : Int) ≤ (J : Int) := by omega
      have g5 : (J : Int) < (N : Int) := by omega
      have g6 : J ≤ sCap t := by omega
      have g7 : I ≤ sCap x := by omega
      have ew2 : IntKind.i64.wrap (J : Int) = (J : Int) := by rw [IntKind.wrap_i64]; omega
      refine wp_region_noPanic ?_
      first
        | (go_region_held3 (fun _ => True)
            ((exact True.intro))
            (first
              | (go_at_call 201; refine (HA.out _).2.2.mono ?_; rintro _ w5 ⟨c, rfl, ⟨u2, q2, f2⟩, hC5⟩; have HC5 := Lib.hid hC5; clear hC5)))
        | fail
      all_goals
        refine NoPanic.normal ?_
        go_wp2
        go_roundw
        case rel =>
          refine ⟨I + 1, _, _, by omega, by omega, by go_num, HC5.out, ?_⟩
          rw [HJ.out]
          exact HNX.out
        case measure => simp [intOf]; omega
    · have hIe : I = n := by omega
      subst hIe
      obtain ⟨N1, hN1⟩ : ∃ N1, N1 = 2 * I - 1 := ⟨_, rfl⟩
      have hNN := HNN.out
      have e4 : (N : Int) - 1 = (N1 : Int) := by omega
      have HPX := Lib.hid HP.out
      have HA : Hid (∀ kk, IsS (subS t 1 N1) ∧ Calls Tryz.prog 173 #[subS t 1 N1, subS t 1 N1, .int .u64 1] (wr.drewN kk) fun e w' => ∃ c : Nat, e = .returned (.int .u64 c) ∧ (∃ u, w'.cell? ⟨sBlk t, sOff t + N1, none⟩ = some u ∧ w'.frozen? ⟨sBlk t, sOff t + N1, none⟩ = false) ∧
          Bq B s L1 I z x t xs o o1 I Sq (2 * T) w (w'.setCell ⟨sBlk t, sOff t + N1, none⟩ (.int .u64 (c : Int)))) := Lib.hid (fun kk => by
        rw [hN1]
        exact (HC.out.drewN kk).dbl (by omega) (by omega) HP.out.2.2.2 HP.out.2.2.1)
      obtain ⟨hsA, -⟩ := HA.out 0
      have hN1N : N1 < N := by omega
      have hN1t : N1 < sLen t := by omega
      have h1N : 1 ≤ N1 := by omega
      have hXX : wv xs * wv xs = Sq + 2 * T := by
        have := HP.out.1
        rw [List.take_of_length_le (by have := HG.out.2.2.2.1; omega)] at this
        exact this
      have hXl : Sq + 2 * T < 18446744073709551616 ^ (2 * I) := by
        rw [← hXX, show 2 * I = I + I by omega, Nat.pow_add]
        have := wv_lt HX.out.lt
        rw [HG.out.2.2.2.1] at this
        exact Nat.mul_lt_mul'' this this
      have HXX := Lib.hid (And.intro hXX hXl)
      clear hN1 hNN HP hXX hXl
      go_upto_region 13 with fail
      have ew1 : IntKind.i64.wrap (2 * (I : Int)) = (N : Int) := by rw [e1, IntKind.wrap_i64]; omega
      have ew2 : IntKind.i64.wrap (N : Int) = (N : Int) := by rw [IntKind.wrap_i64]; omega
      have ew3 : IntKind.i64.wrap ((N : Int) - 1) = (N1 : Int) := by rw [e4, IntKind.wrap_i64]; omega
      have ew4 : IntKind.i64.wrap (N1 : Int) = (N1 : Int) := by rw [IntKind.wrap_i64]; omega
      have g1 : (1 : Int) ≤ (N1 : Int) := by omega
      have g2 : (N1 : Int) ≤ (sCap t : Int) := by omega
      have g4 : (0 : Int) ≤ (N1 : Int) := by omega
      have g5 : (N1 : Int) < (N : Int) := by omega
      have g6 : N1 ≤ sCap t := by omega
      refine wp_region_noPanic ?_
      first
        | (go_region_held3 (fun _ => True)
            ((exact True.intro))
            (first
              | (go_at_call 173; refine (HA.out _).2.mono ?_; rintro _ w5 ⟨c, rfl, ⟨u2, q2, f2⟩, hC5⟩; have HAD := Lib.hid (hC5.add (by omega) (by omega) HXX.out.2); have HC5 := Lib.hid hC5; clear hC5)))
        | fail
      refine NoPanic.normal ?_
      go_wp2_with fail
      refine HAD.out.mono ?_
      rintro _ w6 ⟨c2, rfl, hoz, hst6, hb6, hfr6⟩
      rw [← HXX.out.1] at hoz
      match o1, hst6, HNT with
      | none, hst6, HNT =>
        have hL0 := hst6.2.2
        have HR := Lib.hid (restore_none s 0 .returning w6 hst6.2.1)
        have Q : Hid (BsP z (wv xs) B s I o w w6) := Lib.hid ⟨none, ⟨hst6.1, hst6.2.1, rfl⟩, HNT.out.sb, hoz, hb6, hfr6⟩
        clear hoz hst6 hb6 hfr6 hL0
        go_wp2
        refine leaves_cons (f := 180) (args := #[.pointer (some ⟨s, 0, none⟩), .int .i64 ((0 : Nat) : Int)]) (by simp) (by simp [go_sem]) ?_
        refine HR.out.mono ?_
        rintro e u' w'' ⟨rfl, rfl, rfl⟩
        simp [Leaves, settle, results, Tryz.results169, go_sem]
        exact Q.out
      | some (q0, v0), ⟨t0, t1, t2, t3, ys, t4, t5⟩, HNT =>
        simp only at t1 t2 t3 t4
        have HR := Lib.hid (restore_some s q0 0 v0 .returning w6 t2 t3 t4.isS (Nat.zero_le _) (by decide))
        have hsub := t4.sub (l := 0) (n := 0) (Nat.le_refl _) (Nat.zero_le _)
        have Q : Hid (BsP z (wv xs) B s I o w (w6.setCell ⟨q0, 0, none⟩ (subS v0 0 0))) := Lib.hid (by
          have hnn : ∀ {x : Value} {xs : List Value}, Own w6 B 116 x xs → Own (w6.setCell ⟨q0, 0, none⟩ (subS v0 0 0)) B 116 x xs := fun h => h.away t3 (by decide) 0 _
          have hq0S : SBk s o q0 ∨ w.heap.size ≤ q0 := HNT.out.sb q0 (.inr ⟨_, rfl, .inl rfl⟩)
          refine ⟨some (q0, subS v0 0 0), ⟨t0, t1, ?_, rowset (i := 0) _ t3, _, hnn hsub, ?_⟩, ?_, hnn hoz, bset hb6 t1, ?_⟩
          · have hne : s ≠ q0 := fun he => by
              rw [he, t3] at t2
              have h7 := Option.some.inj t2
              injection h7 with _ h8
              exact absurd h8 (by decide)
            rw [heap_setCell_other _ _ _ _ (by simpa using hne)]; exact t2
          · simp
          · rintro k1 (rfl | ⟨qv, hqv, hk⟩)
            · exact HNT.out.sb _ (.inl rfl)
            · cases hqv
              rcases hk with hk | ⟨hk1, hk2⟩
              · rw [hk]; exact hq0S
              · rw [hk2]
                simp only at hk1 ⊢
                rw [subS_blk t4.isS]
                refine HNT.out.sb _ (.inr ⟨_, rfl, .inr ⟨?_, rfl⟩⟩)
                rw [subS_cap t4.isS] at hk1; exact Nat.lt_of_lt_of_le hk1 (Nat.sub_le _ _)
          · intro k1 hk1 h1 h2
            rw [heap_setCell_other _ _ _ _ (by
              simp only
              intro he
              rcases hq0S with h4 | h4
              · exact h1 (he ▸ h4)
              · omega)]
            exact hfr6 k1 hk1 h1 h2)
        clear hoz t0 t1 t2 t3 t4 t5 hb6 hfr6 hsub
        go_wp2
        refine leaves_cons (f := 180) (args := #[.pointer (some ⟨s, 0, none⟩), .int .i64 ((0 : Nat) : Int)]) (by simp) (by simp [go_sem]) ?_
        refine HR.out.mono ?_
        rintro e u' w'' ⟨rfl, rfl, rfl⟩
        simp [Leaves, settle, results, Tryz.results169, go_sem]
        exact Q.out
theorem dv_step (X y j : Nat) (hy : 0 < y) (_hyb : y < 18446744073709551616) :
    X / 18446744073709551616 ^ (j + 1) % y < y ∧ (X / 18446744073709551616 ^ (j + 1) % y * 18446744073709551616 + wdg X j) / y = wdg (X / y) j ∧
    (X / 18446744073709551616 ^ (j + 1) % y * 18446744073709551616 + wdg X j) % y = X / 18446744073709551616 ^ j % y := by
  have hU : X / 18446744073709551616 ^ j = X / 18446744073709551616 ^ (j + 1) * 18446744073709551616 + wdg X j := by
    unfold wdg
    rw [Nat.pow_succ, ← Nat.div_div_eq_div_mul, Nat.mul_comm]
    exact (Nat.div_add_mod _ _).symm
  have hq : wdg (X / y) j = X / 18446744073709551616 ^ j / y % 18446744073709551616 := by
    unfold wdg
    rw [Nat.div_div_eq_div_mul, Nat.div_div_eq_div_mul, Nat.mul_comm y]
  have hx := wdg_lt X j
  obtain ⟨U, hUU⟩ : ∃ U, U = X / 18446744073709551616 ^ (j + 1) := ⟨_, rfl⟩
  obtain ⟨d, hd⟩ : ∃ d, d = wdg X j := ⟨_, rfl⟩
  rw [← hUU, ← hd] at hU
  rw [← hd] at hx
  rw [hq, hU, ← hUU, ← hd]
  have hm := Nat.mod_lt U hy
  have h1 := Nat.div_add_mod U y
  obtain ⟨a, ha⟩ : ∃ a, a = U / y := ⟨_, rfl⟩
  obtain ⟨r, hr⟩ : ∃ r, r = U % y := ⟨_, rfl⟩
  rw [← ha, ← hr] at h1
  rw [← hr] at hm
  rw [← hr]
  have e : U * 18446744073709551616 + d = y * (a * 18446744073709551616) + (r * 18446744073709551616 + d) := by
    rw [← Nat.mul_assoc, ← h1, Nat.add_mul]; exact Nat.add_assoc _ _ _
  have hb : (r * 18446744073709551616 + d) / y < 18446744073709551616 := by
    refine Nat.div_lt_of_lt_mul ?_
    have := Nat.mul_le_mul_right 18446744073709551616 (Nat.succ_le_of_lt hm)
    rw [Nat.succ_mul] at this
    omega
  refine ⟨hm, ?_, ?_⟩
  · rw [e, Nat.mul_add_div hy]
    generalize (r * 18446744073709551616 + d) / y = Q at *
    omega
  · rw [e, Nat.mul_add_mod]
set_option maxRecDepth 100000 in
set_option maxHeartbeats 3200000 in
theorem divWVW_any (z x : Value) (os : List Value) (xs : List Nat) (y B : Nat) (w : World) (ho : Own w B 116 z os) (hx : RW w x xs) (hlen : os.length = xs.length) (hal : sBlk x = sBlk z → sOff x ≤ sOff z)
    (hl0 : 0 < xs.length) (hl : xs.length ≤ 1000000000) (hy0 : 0 < y) (hy : y < 18446744073709551616) :
    Calls Tryz.prog 218 #[z, .int .u64 0, x, .int .u64 y] w fun e w' => e = .returned (.int .u64 ((wv xs % y : Nat) : Int)) ∧ VvP z xs.length B (wv xs / y) w w' := by
  have hS := ho.isS
  have hSx := hx.isS
  have hL : sLen z = os.length := ho.len
  have hLx : sLen x = xs.length := hx.len
  have hcap : 0 < sCap z := by have := hS.le; omega
  have hB := (ho.lt hcap).1
  obtain ⟨X, hX⟩ : ∃ X, X = wv xs := ⟨_, rfl⟩
  have hget : ∀ j, xs.getD j 0 = wdg X j := fun j => by rw [hX, wv_dig hx.lt]
  have hXl := wv_lt hx.lt
  rw [← hX] at hXl ⊢
  have R0 := Lib.hid (Vd.start (Y := X / y) ho hlen)
  obtain ⟨L, hLw⟩ : ∃ L, L = xs.length := ⟨_, rfl⟩
  have HXS : Hid (∀ j, j < L → j < xs.length) := Lib.hid (fun j hj => by omega)
  rw [← hLw] at R0 hlen hLx hl hl0 hXl ⊢
  rw [hlen] at hL
  have hmb : X % y < 18446744073709551616 := Nat.lt_trans (Nat.mod_lt _ hy0) hy
  by_cases h1 : L = 1
  · subst h1
    have c0 := hx.cell 0 (HXS.out 0 (by decide))
    rw [hget, Nat.add_zero, wdg_zero_eq] at c0
    rw [Nat.pow_one] at hXl
    rw [Nat.mod_eq_of_lt hXl] at c0
    have HD := Lib.hid (fun W => bitsDiv_any 0 X y W hy hy0 hXl)
    rw [show 0 * 18446744073709551616 + X = X by omega] at HD
    obtain ⟨u, cv⟩ : ∃ u, w.cell? ⟨sBlk z, sOff z, none⟩ = some u := by
      obtain ⟨u, hu⟩ := R0.out.own (k := 0) (by decide)
      rw [Nat.add_zero] at hu
      exact ⟨u, hu⟩
    have fz := R0.out.frozen hcap (sOff z)
    have hqb : X / y < 18446744073709551616 := Nat.lt_of_le_of_lt (Nat.div_le_self _ _) hXl
    have HPUT : Hid (∀ n, VvP z 1 B (X / y) w ((w.drewN n).setCell ⟨sBlk z, sOff z, none⟩ (.int .u64 ((X / y : Nat) : Int)))) := Lib.hid (fun n => by
      have hw : X / y = wdg (X / y) 0 := by rw [wdg_zero_eq, Nat.mod_eq_of_lt hqb]
      have := ((R0.out.drewN (k := n)).put (k := 0) (by decide) hB hw).done
      rw [Nat.add_zero] at this
      exact this)
    obtain ⟨N, hN⟩ : ∃ N, N = X / y := ⟨_, rfl⟩
    obtain ⟨M, hM⟩ : ∃ M, M = X % y := ⟨_, rfl⟩
    rw [← hN, ← hM] at HD
    rw [← hN] at HPUT hqb
    rw [← hM] at hmb
    rw [← hN, ← hM]
    clear ho hx hlen hal hl0 hl hX hget hLw R0 hN hM
    go_enter Tryz.func218, Tryz.ntmps218
    go_wp2_with fail
    refine (HD.out _).mono ?_
    rintro _ _ ⟨rfl, n, rfl⟩
    have cv' : (w.drewN n).cell? ⟨sBlk z, sOff z, none⟩ = some u := cv
    have fz' : (w.drewN n).frozen? ⟨sBlk z, sOff z, none⟩ = false := fz
    go_wp2
    go_ret
    exact ⟨rfl, HPUT.out n⟩
  · have t1 : ((L : Int) == 1) = false := by rw [beq_eq_false_iff_ne]; omega
    have HX := Lib.hid hx
    have HAL := Lib.hid hal
    have HG := Lib.hid hget
    have HRC := Lib.hid (fun W => recip_any y W hy hy0)
    have hrl := recW_lt hy hy0
    have HDW := Lib.hid (fun u1 u0 W h1 h2 => divWW_any u1 u0 y W hy h1 h2)
    obtain ⟨rc, hrc⟩ : ∃ r, r = recW y := ⟨_, rfl⟩
    rw [← hrc] at HRC HDW hrl
    have HXL := Lib.hid hXl
    clear ho hlen hX hget hLw h1 hx hal hXl hrc
    go_enter Tryz.func218, Tryz.ntmps218
    go_wp2_with fail
    refine (HRC.out _).mono ?_
    rintro _ _ ⟨rfl, n, rfl⟩
    have RN := Lib.hid (R0.out.drewN (k := n))
    go_wp2
    go_loopw [8, 12] (fun r i wr => ∃ k : Nat, k ≤ L ∧ i = .int .i64 ((k : Int) - 1) ∧ r = .int .u64 ((X / 18446744073709551616 ^ k % y : Nat) : Int) ∧ Vd z L B k (X / y) w wr) (fun _ i _ => (intOf i + 1).toNat)
    case atStart =>
      refine ⟨L, Nat.le_refl _, rfl, ?_, RN.out⟩
      rw [Nat.div_eq_of_lt HXL.out, Nat.zero_mod]; rfl
    case round =>
      obtain ⟨k, hk, rfl, rfl, hrel⟩ := hrel
      have HREL := Lib.hid hrel
      by_cases hk0 : 0 < k
      · obtain ⟨j, rfl⟩ : ∃ j, k = j + 1 := ⟨k - 1, by omega⟩
        obtain ⟨s1, s2, s3⟩ := dv_step X y j hy0 hy
        have c1 := hrel.src HX.out HAL.out (j := j) (by omega) (HXS.out j (by omega))
        obtain ⟨g, cv⟩ := hrel.own (k := j) (by omega)
        have fz := hrel.frozen hcap (sOff z + j)
        rw [HG.out] at c1
        obtain ⟨d, hd⟩ : ∃ d, d = wdg X j := ⟨_, rfl⟩
        have hdl : d < 18446744073709551616 := by rw [hd]; exact wdg_lt _ _
        obtain ⟨R, hR⟩ : ∃ R, R = X / 18446744073709551616 ^ (j + 1) % y := ⟨_, rfl⟩
        obtain ⟨R', hR'⟩ : ∃ R, R = X / 18446744073709551616 ^ j % y := ⟨_, rfl⟩
        obtain ⟨q, hq⟩ : ∃ q, q = wdg (X / y) j := ⟨_, rfl⟩
        rw [← hd] at c1
        rw [← hR, ← hd, ← hq] at s2
        rw [← hR, ← hd, ← hR'] at s3
        rw [← hR] at s1 ⊢
        have hql : q < 18446744073709551616 := by rw [hq]; exact wdg_lt _ _
        have hRl : R < 18446744073709551616 := by omega
        have hR'l : R' < 18446744073709551616 := by rw [hR']; exact Nat.lt_trans (Nat.mod_lt _ hy0) hy
        have HD := Lib.hid (fun W => HDW.out R d W s1 hdl)
        rw [s2, s3] at HD
        have PUT := Lib.hid (HREL.out.put (k := j) (by omega) hB hq)
        have HR' := Lib.hid hR'
        rw [show ((j + 1 : Nat) : Int) - 1 = (j : Int) by omega]
        have t3 : decide ((0:Int) ≤ (j : Int)) = true := by rw [decide_eq_true_iff]; omega
        have hjL : j < L := by omega
        clear hd hR hR' hq s1 s2 s3 hrel
        go_wp2_with fail
        refine (HD.out _).mono ?_
        rintro _ _ ⟨rfl, rfl⟩
        go_wp2
        exact ⟨⟨j, by omega, by go_num, by rw [HR'.out], PUT.out⟩, by simp [intOf]⟩
      · have hk1 : k = 0 := by omega
        subst hk1
        rw [Nat.pow_zero, Nat.div_one]
        have DN := Lib.hid hrel.done
        obtain ⟨M, hM⟩ : ∃ M, M = X % y := ⟨_, rfl⟩
        rw [← hM] at hmb
        have HM := Lib.hid hM
        rw [← hM]
        clear hrel hM
        go_wp2
        go_ret
        rw [HM.out]
        exact ⟨rfl, DN.out⟩
set_option maxRecDepth 100000 in
set_option maxHeartbeats 3200000 in
theorem divW_any (z x : Value) (zs : List Value) (xs : List Nat) (y B : Nat) (w : World) (hz : Own w B 116 z zs) (hx : RO w x xs) (ax : Al z x) (hy1 : 1 < y) (hy : y < 18446744073709551616) (h0 : 0 < xs.length) (hl : xs.length ≤ 100000000) (hB : B ≤ w.heap.size) :
    Calls Tryz.prog 198 #[z, x, .int .u64 y] w fun e w' => ∃ q, e = .returned (.tuple #[q, .int .u64 ((wv xs % y : Nat) : Int)]) ∧ NatR z q (wv xs / y) B w w' := by
  have hS := hz.isS
  have hSx := hx.rw.isS
  obtain ⟨m, hm⟩ : ∃ m, m = xs.length := ⟨_, rfl⟩
  have hLx : sLen x = m := by rw [hx.rw.len, hm]
  have hy0 : 0 < y := by omega
  have t1 : ((y : Int) == 0) = false := by rw [beq_eq_false_iff_ne]; omega
  have t2 : ((y : Int) == 1) = false := by rw [beq_eq_false_iff_ne]; omega
  have hmp : 0 < m := by omega
  have t3 : ((m : Int) == 0) = false := by rw [beq_eq_false_iff_ne]; omega
  have hml : m ≤ 100000000 := by omega
  have hMb : wv xs % y < 18446744073709551616 := Nat.lt_trans (Nat.mod_lt _ hy0) hy
  have HM := Lib.hid hm
  have HZ := Lib.hid hz
  have HX := Lib.hid hx
  have HAX := Lib.hid ax
  have HB := Lib.hid hB
  obtain ⟨S, hSS⟩ : ∃ S, S = wv xs / y := ⟨_, rfl⟩
  obtain ⟨R, hR⟩ : ∃ R, R = wv xs % y := ⟨_, rfl⟩
  have HSS := Lib.hid hSS
  have HRR := Lib.hid hR
  rw [← hR] at hMb
  rw [← hSS, ← hR]
  have HSL : Hid (S < 18446744073709551616 ^ m) := Lib.hid (by rw [hSS, hm]; exact Nat.lt_of_le_of_lt (Nat.div_le_self _ _) (wv_lt hx.rw.lt))
  clear hz hx ax hB hm hSS hR h0 hl
  go_enter Tryz.func198, Tryz.ntmps198
  go_wp2_with fail
  refine (make_any z zs m B w HZ.out (by omega) HB.out).mono ?_
  rintro _ w1 ⟨q, rfl, hmk⟩
  obtain ⟨os, hos, hor⟩ := hmk.own
  have hSr := hor.isS
  have hLr : sLen q = m := by rw [hor.len, hos]
  have hcr : m ≤ sCap q := by have := hSr.le; omega
  have hcr0 : 0 < sCap q := by omega
  have hX1 := HX.out.below hmk.below
  have aX := hmk.al hS hmp HAX.out HX.out.rw (by rw [← HM.out]; exact hmp)
  have HCALL : Hid (Calls Tryz.prog 218 #[q, .int .u64 0, x, .int .u64 y] w1 fun e w' => e = .returned (.int .u64 (R : Int)) ∧ VvP q m B S w1 w') := Lib.hid (by
    have := divWVW_any q x os xs y B w1 hor hX1.rw (by rw [hos, HM.out]) (fun h => by rw [aX h]; exact Nat.le_refl _) (by rw [← HM.out]; exact hmp) (by rw [← HM.out]; omega) hy0 hy
    rw [← HM.out, ← HSS.out, ← HRR.out] at this
    exact this)
  have HFIN : Hid (∀ w2, VvP q m B S w1 w2 → Calls Tryz.prog 117 #[q] w2 fun e w' => e = .returned (subS q 0 (nw S)) ∧ w2 = w' ∧ NatR z (subS q 0 (nw S)) S B w w2) := Lib.hid (fun w2 hvp => by
    obtain ⟨g1, g2, g3⟩ := hvp
    have hnum : wv (wdsN S m) = S := wv_wdsN_lt HSL.out
    have hN := norm_any q _ _ (g1.rw' wdsN_lt) (by rw [wdsN_length]; omega)
    have hT := g1.takeW wdsN_lt
    rw [hnum] at hN hT
    exact hN.mono (fun e w' h => ⟨h.1, h.2, hT, (hmk.below.mono HB.out).trans g2, hmk.fr hS hmp g2.size g3.only, fun hc => hmk.atS hS hSr hc⟩))
  clear hor hos hmk hX1 aX
  go_wp2_with fail
  refine HCALL.out.mono ?_
  rintro _ w2 ⟨rfl, hvp⟩
  have HQ := Lib.hid (HFIN.out w2 hvp)
  clear hvp
  go_wp2_with fail
  refine HQ.out.mono ?_
  rintro _ _ ⟨rfl, rfl, hn⟩
  have Q := Lib.hid hn
  have hSq := hn.own.isS
  clear hn
  go_wp2
  go_ret2
  exact ⟨_, rfl, Q.out⟩
theorem Own.frz {w w' : World} {B : Nat} {e : TypeId} {z v : Value} {xs : List Value} (h : Own w B e v xs) (f : Fr z w w') (hne : 0 < sCap v → 0 < sCap z → sBlk v ≠ sBlk z) : Own w' B e v xs :=
  h.same fun hc => f _ (h.lt hc).2 (fun hz => hne hc hz)
set_option maxRecDepth 100000 in
set_option maxHeartbeats 800000 in
theorem divW_gen (z x : Value) (zs : List Value) (N y B : Nat) (w : World) (hz : Own w B 116 z zs) (hx : RO w x (wds N)) (ax : Al z x) (hy0 : 0 < y) (hy : y < 18446744073709551616) (hl : nw N ≤ 100000000) (hB : B ≤ w.heap.size) :
    Calls Tryz.prog 198 #[z, x, .int .u64 y] w fun e w' => ∃ q, e = .returned (.tuple #[q, .int .u64 ((N % y : Nat) : Int)]) ∧ NatR z q (N / y) B w w' := by
  have hS := hz.isS
  have hSx := hx.rw.isS
  obtain ⟨m, hm⟩ : ∃ m, m = nw N := ⟨_, rfl⟩
  have hLx : sLen x = m := by rw [hx.rw.len, wds_length, hm]
  by_cases h1 : y = 1
  · subst h1
    rw [Nat.mod_one, Nat.div_one]
    have HS := Lib.hid (set_at z x zs (wds N) B w hz hx.rw (by rw [wds_length]; omega) hB)
    clear hz hx ax hB hm hl
    go_enter Tryz.func198, Tryz.ntmps198
    go_wp2_with fail
    refine HS.out.mono ?_
    rintro _ w1 ⟨q, rfl, h⟩
    have hSq := h.1.isS
    have Q : Hid (NatR z q N B w w1) := Lib.hid ⟨h.1, h.2.1, h.2.2.1, h.2.2.2⟩
    clear h
    go_wp2
    go_ret2
    exact ⟨_, rfl, Q.out⟩
  · rcases Nat.eq_zero_or_pos N with h0 | h0
    · have hm0 : m = 0 := by rw [hm, h0]; rfl
      subst hm0
      have t1 : ((y : Int) == 0) = false := by rw [beq_eq_false_iff_ne]; omega
      have t2 : ((y : Int) == 1) = false := by rw [beq_eq_false_iff_ne]; omega
      have Q : Hid (NatR z (subS z 0 0) (N / y) B w w) := Lib.hid (by
        rw [h0, Nat.zero_div]
        exact ⟨by have := hz.sub (l := 0) (n := 0) (Nat.le_refl _) (Nat.zero_le _); simpa [cellsW, wds_zero] using this, Below.refl _ _, Fr.refl _ _, fun hc => .inl ⟨by rw [subS_cap hz.isS] at hc; exact hc, subS_blk hz.isS⟩⟩)
      have hSq := Q.out.own.isS
      have hmod : N % y = 0 := by rw [h0, Nat.zero_mod]
      rw [hmod]
      have hc0 : 0 ≤ sCap z := Nat.zero_le _
      clear hz hx ax hB hm hl h0 hmod h1
      go_enter Tryz.func198, Tryz.ntmps198
      go_wp2
      go_ret2
      exact ⟨_, rfl, Q.out⟩
    · have := divW_any z x zs (wds N) y B w hz hx ax (by omega) hy (by rw [wds_length]; exact nw_pos h0) (by rw [wds_length]; exact hl) hB
      rw [wv_wds] at this
      exact this
set_option maxRecDepth 100000 in
set_option maxHeartbeats 800000 in
theorem setWord_gen (z : Value) (zs : List Value) (d B : Nat) (w : World) (hz : Own w B 116 z zs) (hd : d < 18446744073709551616) (hB : B ≤ w.heap.size) :
    Calls Tryz.prog 115 #[z, .int .u64 d] w fun e w' => ∃ r, e = .returned r ∧ NatR z r d B w w' := by
  have hS := hz.isS
  rcases Nat.eq_zero_or_pos d with h0 | h0
  · subst h0
    have Q : Hid (NatR z (subS z 0 0) 0 B w w) := Lib.hid ⟨by have := hz.sub (l := 0) (n := 0) (Nat.le_refl _) (Nat.zero_le _); simpa [cellsW, wds_zero] using this, Below.refl _ _, Fr.refl _ _, fun hc => .inl ⟨by rw [subS_cap hz.isS] at hc; exact hc, subS_blk hz.isS⟩⟩
    have hSq := Q.out.own.isS
    have hc0 : 0 ≤ sCap z := Nat.zero_le _
    clear hz hB
    go_enter Tryz.func115, Tryz.ntmps115
    go_wp2
    go_ret
    exact ⟨_, rfl, Q.out⟩
  · have t1 : ((d : Int) == 0) = false := by rw [beq_eq_false_iff_ne]; omega
    have HM := Lib.hid (make_any z zs 1 B w hz (by decide) hB)
    have HB := Lib.hid hB
    have HD : Hid (wds d = [d]) := Lib.hid (by
      have h1 := lt_nw d
      have h2 : nw d = 1 := by
        have h3 := nw_le (k := 1) (n := d) (by rw [Nat.pow_one]; exact hd)
        have h4 := nw_pos h0
        omega
      rw [← wdsN_nw, h2]
      simp [wdsN, wdg, Nat.mod_eq_of_lt hd])
    clear hz hB
    go_enter Tryz.func115, Tryz.ntmps115
    go_wp2_with fail
    refine HM.out.mono ?_
    rintro _ w1 ⟨r, rfl, hmk⟩
    obtain ⟨ys, hy, ho⟩ := hmk.own
    obtain ⟨t, rfl⟩ := List.length_eq_one_iff.1 hy
    have hSr := ho.isS
    have hLr : sLen r = 1 := by rw [ho.len]; rfl
    have hcap : 0 < sCap r := by have := hSr.le; omega
    have fz := ho.frozen hcap (sOff r)
    have ce := ho.cell (i := 0) (u := t) rfl
    have hset := ho.set (i := 0) (by simp) (.int .u64 (d : Int))
    rw [Nat.add_zero] at hset ce
    have hb3 : Below B w1 (w1.setCell ⟨sBlk r, sOff r, none⟩ (.int .u64 (d : Int))) := bset (Below.refl _ _) (ho.lt hcap).1
    have Q : Hid (NatR z r d B w (w1.setCell ⟨sBlk r, sOff r, none⟩ (.int .u64 (d : Int)))) := Lib.hid (by
      refine ⟨?_, (hmk.below.mono HB.out).trans hb3, hmk.fr hS (by decide) hb3.size (fun k _ hk => heap_setCell_other _ _ _ _ (by simp only; exact hk)), fun hc => hmk.at_ hS hc⟩
      rw [HD.out]; exact hset)
    clear hmk ho hy hset hb3
    go_wp2
    go_ret
    exact ⟨_, rfl, Q.out⟩
end Go.Proofs.YtllhnjpnkmjopaaGreatDoor
