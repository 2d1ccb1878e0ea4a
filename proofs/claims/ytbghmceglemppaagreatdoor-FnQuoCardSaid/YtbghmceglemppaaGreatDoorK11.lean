/-
Texts of this proof, joined: VvL DvD. No condition.
-/
import Derived.Test.YtbghmceglemppaaGreatDoorK09
import Derived.Test.YtbghmceglemppaaGreatDoorK10
/-
lshVU: a number's words are shifted to the left, in place or from elsewhere; lsh into a new slice. No condition.
-/
namespace Go.Proofs.YtbghmceglemppaaGreatDoor
open Go.RowKit

/-- The words from place k on are Y's. -/
def Vd (v : Value) (n B k Y : Nat) (w wr : World) : Prop :=
  ∃ os : List Value, Own wr B 181 v os ∧ os.length = n ∧ (∀ j, k ≤ j → j < n → os[j]? = some (.int .u64 ((wdg Y j : Nat) : Int))) ∧ Below B w wr ∧ FrB (sBlk v) (sOff v + k) (sOff v + n) w wr
theorem Vd.start {v : Value} {B Y n : Nat} {os : List Value} {w : World} (h : Own w B 181 v os) (hn : os.length = n) : Vd v n B n Y w w :=
  ⟨os, h, hn, fun j h1 h2 => by omega, Below.refl _ _, FrB.refl _ _ _ _⟩
theorem Vd.put {v : Value} {n B k Y : Nat} {w wr : World} (h : Vd v n B (k + 1) Y w wr) (hk : k < n) (hc : B ≤ sBlk v) {y : Nat} (hy : y = wdg Y k) : Vd v n B k Y w (wr.setCell ⟨sBlk v, sOff v + k, none⟩ (.int .u64 (y : Int))) := by
  obtain ⟨os, h1, h2, h4, h5, h6⟩ := h
  have ho := h1.set (i := k) (by omega) (.int .u64 (y : Int))
  refine ⟨os.set k (.int .u64 (y : Int)), ho, by simpa using h2, fun j hj hjn => ?_, bset h5 hc, (h6.mono (by omega) (Nat.le_refl _)).set (Nat.le_refl _) (by omega) _⟩
  rw [List.getElem?_set]
  split
  · rename_i e; subst e; rw [if_pos (by omega), hy]
  · exact h4 j (by omega) hjn
theorem Vd.drewN {v : Value} {n B i Y k : Nat} {w wr : World} (h : Vd v n B i Y w wr) : Vd v n B i Y w (wr.drewN k) := by
  obtain ⟨os, h1, h2, h4, h5, h6⟩ := h
  exact ⟨os, h1.drewN _, h2, h4, undrewN' h5, h6.drewN⟩
theorem Vd.done {v : Value} {n B Y : Nat} {w wr : World} (h : Vd v n B 0 Y w wr) : VvP v n B Y w wr := by
  obtain ⟨os, h1, h2, h4, h5, h6⟩ := h
  have e : os = cellsW (wdsN Y n) := by
    apply List.ext_getElem?
    intro i
    by_cases hi : i < n
    · rw [h4 i (Nat.zero_le _) hi, cellsW, List.getElem?_map, wdsN, List.getElem?_map, List.getElem?_range hi]; rfl
    · rw [List.getElem?_eq_none (by omega), List.getElem?_eq_none (by rw [cellsW_length, wdsN_length]; omega)]
  rw [VvP, ← e]
  exact ⟨h1, h5, h6⟩
theorem Vd.src {v x : Value} {n B k Y : Nat} {xs : List Nat} {w wr : World} (h : Vd v n B k Y w wr) (hx : RW w x xs) (hal : sBlk x = sBlk v → sOff x ≤ sOff v) {j : Nat} (hij : j < k) (hj : j < xs.length) : wr.cell? ⟨sBlk x, sOff x + j, none⟩ = some (.int .u64 ((xs.getD j 0 : Nat) : Int)) := by
  obtain ⟨os, h1, h2, h4, h5, h6⟩ := h
  exact h6.cell (hx.cell j hj) (fun hb => by have := hal hb; omega)
theorem Vd.frozen {v : Value} {n B i Z : Nat} {w wr : World} (h : Vd v n B i Z w wr) (hc : 0 < sCap v) (k : Nat) : wr.frozen? ⟨sBlk v, k, none⟩ = false := by
  obtain ⟨os, h1, -⟩ := h
  exact h1.frozen hc k
theorem Vd.own {v : Value} {n B i Z : Nat} {w wr : World} (h : Vd v n B i Z w wr) {k : Nat} (hk : k < n) : ∃ u : Value, wr.cell? ⟨sBlk v, sOff v + k, none⟩ = some u := by
  obtain ⟨os, h1, h2, -⟩ := h
  exact ⟨_, h1.cell (List.getElem?_eq_getElem (by omega))⟩
set_option maxRecDepth 100000 in
set_option maxHeartbeats 1600000 in
theorem lshVU_g_gen (v x : Value) (os : List Value) (xs : List Nat) (X s B : Nat) (w : World) (ho : Own w B 181 v os) (hx : RW w x xs) (hX : wv xs = X) (hlen : os.length = xs.length) (hal : sBlk x = sBlk v → sOff x ≤ sOff v)
    (hl0 : 0 < xs.length) (hl : xs.length ≤ 1000000000) (hs0 : 0 < s) (hs : s < 64) :
    Calls Tryz.prog 240 #[v, x, .int .u64 s] w fun e w' => e = .returned (.int .u64 (wdg X (xs.length - 1) / 2 ^ (64 - s) : Nat)) ∧ VvP v xs.length B (X * 2 ^ s) w w' := by
  have hS := ho.isS
  have hSx := hx.isS
  have hL : sLen v = os.length := ho.len
  have hLx : sLen x = xs.length := hx.len
  have hcap : 0 < sCap v := by have := hS.le; omega
  have hB := (ho.lt hcap).1
  have hget : ∀ j, xs.getD j 0 = wdg X j := fun j => by rw [← hX, wv_dig hx.lt]
  obtain ⟨L, hLw⟩ : ∃ L, L + 1 = xs.length := ⟨xs.length - 1, by omega⟩
  have R0 := Lib.hid (Vd.start (Y := X * 2 ^ s) ho hlen)
  rw [← hLw] at R0
  have hc := hx.cell L (by omega)
  rw [hget] at hc
  have HXS : Hid (∀ j, j < L + 1 → j < xs.length) := Lib.hid (fun j hj => by omega)
  rw [← hLw] at hlen hLx hl ⊢
  rw [hlen] at hL
  rw [Nat.add_sub_cancel]
  have n1 := and63 hs
  have n2 := and63 (show 64 - s < 64 by omega)
  obtain ⟨r, hr⟩ : ∃ r, r = 64 - s := ⟨_, rfl⟩
  rw [← hr] at n2 ⊢
  have hr64 : r < 64 := by omega
  have e1 : (64 : Int) - (s : Int) = (r : Int) := by omega
  have hS2 : (2 : Int) ^ s = ((2 ^ s : Nat) : Int) := by simp
  have hR2 : (2 : Int) ^ r = ((2 ^ r : Nat) : Int) := by simp
  obtain ⟨t, ht⟩ : ∃ t, t = wdg X L := ⟨_, rfl⟩
  rw [← ht] at hc ⊢
  obtain ⟨S, hSS⟩ : ∃ S, S = 2 ^ s := ⟨_, rfl⟩
  rw [← hSS] at hS2
  have HS := Lib.hid hSS
  obtain ⟨R, hR⟩ : ∃ R, R = 2 ^ r := ⟨_, rfl⟩
  rw [← hR] at hR2 ⊢
  have hqt : (t : Int) / (R : Int) = ((t / R : Nat) : Int) := by simp
  have htl : t < 18446744073709551616 := by rw [ht]; exact wdg_lt _ _
  obtain ⟨q, hq⟩ : ∃ q, q = t / R := ⟨_, rfl⟩
  rw [← hq] at hqt ⊢
  have ts : ((s : Int) == 0) = false := by rw [beq_eq_false_iff_ne]; omega
  have HX := Lib.hid hx
  have HAL := Lib.hid hal
  have HG := Lib.hid hget
  have HR := Lib.hid hR
  have Hr := Lib.hid hr
  clear ho hLw hX hl0 hget ht hR hq hr hSS hx hlen hal
  go_enter Tryz.func240, Tryz.ntmps240
  go_wp2
  go_loopw [8] (fun i wr => ∃ k : Nat, k ≤ L ∧ i = .int .i64 k ∧ Vd v (L + 1) B (k + 1) (X * 2 ^ s) w wr) (fun i _ => (intOf i).toNat)
  case atStart => exact ⟨L, Nat.le_refl _, rfl, R0.out⟩
  case round =>
    obtain ⟨k, hk, rfl, hrel⟩ := hrel
    have HREL := Lib.hid hrel
    have hkL : k < L + 1 := by omega
    have fz := hrel.frozen hcap
    rcases Nat.eq_zero_or_pos k with hk0 | hk0
    · subst hk0
      have c0 := hrel.src HX.out HAL.out (j := 0) (by omega) (HXS.out 0 (by omega))
      obtain ⟨g, cv⟩ := hrel.own (k := 0) (by omega)
      rw [HG.out, Nat.add_zero] at c0
      rw [Nat.add_zero] at cv
      obtain ⟨d0, hd0⟩ : ∃ d, d = wdg X 0 := ⟨_, rfl⟩
      rw [← hd0] at c0
      have hm := wrapU d0 S
      obtain ⟨m, hmm⟩ : ∃ m, m = d0 * S % 18446744073709551616 := ⟨_, rfl⟩
      rw [← hmm] at hm
      have fz0 := fz (sOff v)
      have HM : m = wdg (X * 2 ^ s) 0 := by rw [wdg_shl_zero _ (by omega), hmm, hd0, HS.out]
      have PUT := (HREL.out.put (k := 0) hkL hB HM).done
      rw [Nat.add_zero] at PUT
      have PUT := Lib.hid PUT
      clear fz hd0 hmm HM hrel
      go_wp2
      go_ret
      exact ⟨rfl, PUT.out⟩
    · obtain ⟨j, rfl⟩ : ∃ j, k = j + 1 := ⟨k - 1, by omega⟩
      have c1 := hrel.src HX.out HAL.out (j := j + 1) (by omega) (HXS.out _ (by omega))
      have c0 := hrel.src HX.out HAL.out (j := j) (by omega) (HXS.out _ (by omega))
      obtain ⟨g, cv⟩ := hrel.own (k := j + 1) (by omega)
      rw [HG.out] at c1 c0
      obtain ⟨d1, hd1⟩ : ∃ d, d = wdg X (j + 1) := ⟨_, rfl⟩
      obtain ⟨d0, hd0⟩ : ∃ d, d = wdg X j := ⟨_, rfl⟩
      rw [← hd1] at c1
      rw [← hd0] at c0
      have hm := wrapU d1 S
      have hq0 : (d0 : Int) / (R : Int) = ((d0 / R : Nat) : Int) := by simp
      obtain ⟨m, hmm⟩ : ∃ m, m = d1 * S % 18446744073709551616 := ⟨_, rfl⟩
      obtain ⟨q0, hqq⟩ : ∃ q, q = d0 / R := ⟨_, rfl⟩
      rw [← hmm] at hm
      rw [← hqq] at hq0
      have hd0l : d0 < 18446744073709551616 := by rw [hd0]; exact wdg_lt _ _
      have hq0l : q0 < 2 ^ s := by
        rw [hqq, HR.out, Hr.out]
        refine Nat.div_lt_of_lt_mul ?_
        rw [word_split (by omega)]; exact hd0l
      have hor := bits_or_u64_nat m q0 (by rw [hmm]; exact Nat.mod_lt _ (by decide)) (by have := Nat.div_le_self d0 R; omega)
      have hy : m ||| q0 = wdg (X * 2 ^ s) (j + 1) := by
        rw [wdg_shl_succ _ _ hs, hmm, HS.out, shl_or hs hq0l, hqq, hd0, hd1, HR.out, Hr.out]
      rw [hy] at hor
      obtain ⟨y, hyy⟩ : ∃ y, y = wdg (X * 2 ^ s) (j + 1) := ⟨_, rfl⟩
      rw [← hyy] at hor
      have HY := Lib.hid hyy
      have fz1 := fz (sOff v + (j + 1))
      have hj1 : j + 1 < L + 1 := by omega
      clear fz hy hq0l hd0 hd1 hmm hqq hyy hrel
      go_wp2
      (refine wp_region_hoist 16 (by kernel_rfl) (by kernel_rfl) ⟨fun _ _ _ h => (by first | exact (hQp _ _ _ h).elim | cases h.2.1 | (obtain ⟨_, h3, _⟩ := h.2; cases h3)), fun _ _ h => (by first | exact (hQo _ _ h).elim | cases h.1 | (obtain ⟨_, h3, _⟩ := h; cases h3))⟩ ?_; simp only [List.take_succ_cons, List.take_zero, List.drop_succ_cons, List.drop_zero]; (repeat (go_big_quiet_step (fail))); refine wpQuiet_nil ?_; rintro _ ⟨nq, rfl⟩)
      go_wp2
      exact ⟨⟨j, by omega, rfl, HREL.out.drewN.put hj1 hB HY.out⟩, by simp [intOf]⟩
set_option maxRecDepth 100000 in
theorem lshVU_gen (v x : Value) (os : List Value) (xs : List Nat) (X s B : Nat) (w : World) (ho : Own w B 181 v os) (hx : RW w x xs) (hX : wv xs = X) (hlen : os.length = xs.length) (hal : sBlk x = sBlk v → sOff x ≤ sOff v)
    (hl0 : 0 < xs.length) (hl : xs.length ≤ 1000000000) (hs0 : 0 < s) (hs : s < 64) :
    Calls Tryz.prog 207 #[v, x, .int .u64 s] w fun e w' => e = .returned (.int .u64 (wdg X (xs.length - 1) / 2 ^ (64 - s) : Nat)) ∧ VvP v xs.length B (X * 2 ^ s) w w' := by
  have hS := ho.isS
  have hSx := hx.isS
  have H := Lib.hid (lshVU_g_gen v x os xs X s B w ho hx hX hlen hal hl0 hl hs0 hs)
  clear ho hx hX hlen hal hl0 hl
  go_enter Tryz.func207, Tryz.ntmps207
  go_wp2_with fail
  refine H.out.mono ?_
  rintro _ w1 ⟨rfl, h1⟩
  go_wp2
  go_ret
  exact ⟨rfl, h1⟩
end Go.Proofs.YtbghmceglemppaaGreatDoor

/-
A number by a word: divWVW. No condition.
-/
namespace Go.Proofs.YtbghmceglemppaaGreatDoor
open Go.RowKit

/-- One digit of a quotient by a word, and what is left. -/
theorem dv_step (X y j : Nat) (hy : 0 < y) (_hyb : y < 18446744073709551616) :
    X / 18446744073709551616 ^ (j + 1) % y < y ∧ (X / 18446744073709551616 ^ (j + 1) % y * 18446744073709551616 + wdg X j) / y = wdg (X / y) j ∧
    (X / 18446744073709551616 ^ (j + 1) % y * 18446744073709551616 + wdg X j) % y = X / 18446744073709551616 ^ j % y := by
  have hU : X / 18446744073709551616 ^ j = X / 18446744073709551616 ^ (j + 1) * 18446744073709551616 + wdg X j := by
    unfold wdg
    rw [Nat.pow_succ, ← Nat.div_div_eq_div_mul, Nat.mul_comm]
    exact (Nat.div_add_mod _ _).symm
  have hq : wdg (X / y) j = X / 18446744073709551616 ^ j / y % 18446744073709551616 := by
    unfold wdg
    rw [Nat.div_div_eq_div_mul, Nat.div_div_eq_div_mul, Nat.mul_comm y]
  have hx := wdg_lt X j
  obtain ⟨U, hUU⟩ : ∃ U, U = X / 18446744073709551616 ^ (j + 1) := ⟨_, rfl⟩
  obtain ⟨d, hd⟩ : ∃ d, d = wdg X j := ⟨_, rfl⟩
  rw [← hUU, ← hd] at hU
  rw [← hd] at hx
  rw [hq, hU, ← hUU, ← hd]
  have hm := Nat.mod_lt U hy
  have h1 := Nat.div_add_mod U y
  obtain ⟨a, ha⟩ : ∃ a, a = U / y := ⟨_, rfl⟩
  obtain ⟨r, hr⟩ : ∃ r, r = U % y := ⟨_, rfl⟩
  rw [← ha, ← hr] at h1
  rw [← hr] at hm
  rw [← hr]
  have e : U * 18446744073709551616 + d = y * (a * 18446744073709551616) + (r * 18446744073709551616 + d) := by
    rw [← Nat.mul_assoc, ← h1, Nat.add_mul]; exact Nat.add_assoc _ _ _
  have hb : (r * 18446744073709551616 + d) / y < 18446744073709551616 := by
    refine Nat.div_lt_of_lt_mul ?_
    have := Nat.mul_le_mul_right 18446744073709551616 (Nat.succ_le_of_lt hm)
    rw [Nat.succ_mul] at this
    omega
  refine ⟨hm, ?_, ?_⟩
  · rw [e, Nat.mul_add_div hy]
    generalize (r * 18446744073709551616 + d) / y = Q at *
    omega
  · rw [e, Nat.mul_add_mod]
set_option maxRecDepth 100000 in
set_option maxHeartbeats 3200000 in
theorem divWVW_any (z x : Value) (os : List Value) (xs : List Nat) (y B : Nat) (w : World) (ho : Own w B 181 z os) (hx : RW w x xs) (hlen : os.length = xs.length) (hal : sBlk x = sBlk z → sOff x ≤ sOff z)
    (hl0 : 0 < xs.length) (hl : xs.length ≤ 1000000000) (hy0 : 0 < y) (hy : y < 18446744073709551616) :
    Calls Tryz.prog 248 #[z, .int .u64 0, x, .int .u64 y] w fun e w' => e = .returned (.int .u64 ((wv xs % y : Nat) : Int)) ∧ VvP z xs.length B (wv xs / y) w w' := by
  have hS := ho.isS
  have hSx := hx.isS
  have hL : sLen z = os.length := ho.len
  have hLx : sLen x = xs.length := hx.len
  have hcap : 0 < sCap z := by have := hS.le; omega
  have hB := (ho.lt hcap).1
  obtain ⟨X, hX⟩ : ∃ X, X = wv xs := ⟨_, rfl⟩
  have hget : ∀ j, xs.getD j 0 = wdg X j := fun j => by rw [hX, wv_dig hx.lt]
  have hXl := wv_lt hx.lt
  rw [← hX] at hXl ⊢
  have R0 := Lib.hid (Vd.start (Y := X / y) ho hlen)
  obtain ⟨L, hLw⟩ : ∃ L, L = xs.length := ⟨_, rfl⟩
  have HXS : Hid (∀ j, j < L → j < xs.length) := Lib.hid (fun j hj => by omega)
  rw [← hLw] at R0 hlen hLx hl hl0 hXl ⊢
  rw [hlen] at hL
  have hmb : X % y < 18446744073709551616 := Nat.lt_trans (Nat.mod_lt _ hy0) hy
  by_cases h1 : L = 1
  · subst h1
    have c0 := hx.cell 0 (HXS.out 0 (by decide))
    rw [hget, Nat.add_zero, wdg_zero_eq] at c0
    rw [Nat.pow_one] at hXl
    rw [Nat.mod_eq_of_lt hXl] at c0
    have HD := Lib.hid (fun W => bitsDiv_any 0 X y W hy hy0 hXl)
    rw [show 0 * 18446744073709551616 + X = X by omega] at HD
    obtain ⟨u, cv⟩ : ∃ u, w.cell? ⟨sBlk z, sOff z, none⟩ = some u := by
      obtain ⟨u, hu⟩ := R0.out.own (k := 0) (by decide)
      rw [Nat.add_zero] at hu
      exact ⟨u, hu⟩
    have fz := R0.out.frozen hcap (sOff z)
    have hqb : X / y < 18446744073709551616 := Nat.lt_of_le_of_lt (Nat.div_le_self _ _) hXl
    have HPUT : Hid (∀ n, VvP z 1 B (X / y) w ((w.drewN n).setCell ⟨sBlk z, sOff z, none⟩ (.int .u64 ((X / y : Nat) : Int)))) := Lib.hid (fun n => by
      have hw : X / y = wdg (X / y) 0 := by rw [wdg_zero_eq, Nat.mod_eq_of_lt hqb]
      have := ((R0.out.drewN (k := n)).put (k := 0) (by decide) hB hw).done
      rw [Nat.add_zero] at this
      exact this)
    obtain ⟨N, hN⟩ : ∃ N, N = X / y := ⟨_, rfl⟩
    obtain ⟨M, hM⟩ : ∃ M, M = X % y := ⟨_, rfl⟩
    rw [← hN, ← hM] at HD
    rw [← hN] at HPUT hqb
    rw [← hM] at hmb
    rw [← hN, ← hM]
    clear ho hx hlen hal hl0 hl hX hget hLw R0 hN hM
    go_enter Tryz.func248, Tryz.ntmps248
    go_wp2_with fail
    refine (HD.out _).mono ?_
    rintro _ _ ⟨rfl, n, rfl⟩
    have cv' : (w.drewN n).cell? ⟨sBlk z, sOff z, none⟩ = some u := cv
    have fz' : (w.drewN n).frozen? ⟨sBlk z, sOff z, none⟩ = false := fz
    go_wp2
    go_ret
    exact ⟨rfl, HPUT.out n⟩
  · have t1 : ((L : Int) == 1) = false := by rw [beq_eq_false_iff_ne]; omega
    have HX := Lib.hid hx
    have HAL := Lib.hid hal
    have HG := Lib.hid hget
    have HRC := Lib.hid (fun W => recip_any y W hy hy0)
    have hrl := recW_lt hy hy0
    have HDW := Lib.hid (fun u1 u0 W h1 h2 => divWW_any u1 u0 y W hy h1 h2)
    obtain ⟨rc, hrc⟩ : ∃ r, r = recW y := ⟨_, rfl⟩
    rw [← hrc] at HRC HDW hrl
    have HXL := Lib.hid hXl
    clear ho hlen hX hget hLw h1 hx hal hXl hrc
    go_enter Tryz.func248, Tryz.ntmps248
    go_wp2_with fail
    refine (HRC.out _).mono ?_
    rintro _ _ ⟨rfl, n, rfl⟩
    have RN := Lib.hid (R0.out.drewN (k := n))
    go_wp2
    go_loopw [8, 12] (fun r i wr => ∃ k : Nat, k ≤ L ∧ i = .int .i64 ((k : Int) - 1) ∧ r = .int .u64 ((X / 18446744073709551616 ^ k % y : Nat) : Int) ∧ Vd z L B k (X / y) w wr) (fun _ i _ => (intOf i + 1).toNat)
    case atStart =>
      refine ⟨L, Nat.le_refl _, rfl, ?_, RN.out⟩
      rw [Nat.div_eq_of_lt HXL.out, Nat.zero_mod]; rfl
    case round =>
      obtain ⟨k, hk, rfl, rfl, hrel⟩ := hrel
      have HREL := Lib.hid hrel
      by_cases hk0 : 0 < k
      · obtain ⟨j, rfl⟩ : ∃ j, k = j + 1 := ⟨k - 1, by omega⟩
        obtain ⟨s1, s2, s3⟩ := dv_step X y j hy0 hy
        have c1 := hrel.src HX.out HAL.out (j := j) (by omega) (HXS.out j (by omega))
        obtain ⟨g, cv⟩ := hrel.own (k := j) (by omega)
        have fz := hrel.frozen hcap (sOff z + j)
        rw [HG.out] at c1
        obtain ⟨d, hd⟩ : ∃ d, d = wdg X j := ⟨_, rfl⟩
        have hdl : d < 18446744073709551616 := by rw [hd]; exact wdg_lt _ _
        obtain ⟨R, hR⟩ : ∃ R, R = X / 18446744073709551616 ^ (j + 1) % y := ⟨_, rfl⟩
        obtain ⟨R', hR'⟩ : ∃ R, R = X / 18446744073709551616 ^ j % y := ⟨_, rfl⟩
        obtain ⟨q, hq⟩ : ∃ q, q = wdg (X / y) j := ⟨_, rfl⟩
        rw [← hd] at c1
        rw [← hR, ← hd, ← hq] at s2
        rw [← hR, ← hd, ← hR'] at s3
        rw [← hR] at s1 ⊢
        have hql : q < 18446744073709551616 := by rw [hq]; exact wdg_lt _ _
        have hRl : R < 18446744073709551616 := by omega
        have hR'l : R' < 18446744073709551616 := by rw [hR']; exact Nat.lt_trans (Nat.mod_lt _ hy0) hy
        have HD := Lib.hid (fun W => HDW.out R d W s1 hdl)
        rw [s2, s3] at HD
        have PUT := Lib.hid (HREL.out.put (k := j) (by omega) hB hq)
        have HR' := Lib.hid hR'
        rw [show ((j + 1 : Nat) : Int) - 1 = (j : Int) by omega]
        have t3 : decide ((0:Int) ≤ (j : Int)) = true := by rw [decide_eq_true_iff]; omega
        have hjL : j < L := by omega
        clear hd hR hR' hq s1 s2 s3 hrel
        go_wp2_with fail
        refine (HD.out _).mono ?_
        rintro _ _ ⟨rfl, rfl⟩
        go_wp2
        exact ⟨⟨j, by omega, by go_num, by rw [HR'.out], PUT.out⟩, by simp [intOf]⟩
      · have hk1 : k = 0 := by omega
        subst hk1
        rw [Nat.pow_zero, Nat.div_one]
        have DN := Lib.hid hrel.done
        obtain ⟨M, hM⟩ : ∃ M, M = X % y := ⟨_, rfl⟩
        rw [← hM] at hmb
        have HM := Lib.hid hM
        rw [← hM]
        clear hrel hM
        go_wp2
        go_ret
        rw [HM.out]
        exact ⟨rfl, DN.out⟩
end Go.Proofs.YtbghmceglemppaaGreatDoor
