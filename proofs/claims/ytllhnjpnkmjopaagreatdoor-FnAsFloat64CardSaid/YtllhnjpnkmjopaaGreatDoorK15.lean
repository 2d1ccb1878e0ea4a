/-
Texts of this proof, joined: FlM FlD FlE FlF FlG FlH. No condition.
-/
import Derived.Test.YtllhnjpnkmjopaaGreatDoorK09
namespace Go.Proofs.YtllhnjpnkmjopaaGreatDoor
open Go.RowKit

set_option maxRecDepth 100000 in
set_option maxHeartbeats 800000 in
theorem setExp_exact (b B p m f : Nat) (a e x : Int) (neg : Bool) (v : Value) (ws : List Nat) (w : World) (h : FltR w b p m a f neg v e) (hB : B ≤ b) (ho : Own w B 116 v (cellsW ws)) (hd : ∀ d ∈ ws, d < 18446744073709551616) (hf : Fits ws p) (h0 : 0 < ws.length) (hl : ws.length ≤ 1000000) (hp0 : 0 < p) (hp : p ≤ 64000000)
    (hx1 : -2147483648 ≤ x) (hx2 : x ≤ 2147483647) :
    Calls Tryz.prog 131 #[.pointer (some ⟨b, 0, none⟩), .int .i64 x, .int .u64 0] w fun e' w' => e' = .returned (.tuple #[]) ∧ FltR w' b p m 0 1 neg v x ∧ Own w' B 116 v (cellsW ws) ∧ Below B w w' := by
  obtain ⟨c0, c1, c2, c3, c4, c5, c6⟩ := h.cells
  obtain ⟨f0, f1, f2, f3, f4, f5, f6⟩ := h.free
  have hS := ho.isS
  have R2 := Lib.hid ((h.s3 1).s6 x)
  have O2 := Lib.hid ((h.s3 1).own (h.own ho 3 (.int .u8 (1 : Int))) 6 (.int .i32 x))
  have B2 := Lib.hid (bset (i := 6) (u := .int .i32 x) (bset (i := 3) (u := .int .u8 (1 : Int)) (Below.refl B w) hB) hB)
  have HD := Lib.hid hd
  have HF := Lib.hid hf
  clear h ho hd hf
  go_enter Tryz.func131, Tryz.ntmps131
  go_wp2_with fail
  refine (round_exact b B p m a x neg v ws _ R2.out hB O2.out HD.out HF.out h0 hl hp0 hp).mono ?_
  rintro _ w1 ⟨rfl, r1, r2, r3⟩
  have Q := Lib.hid (⟨r1, r2, B2.out.trans r3⟩ : FltR w1 b p m 0 1 neg v x ∧ Own w1 B 116 v (cellsW ws) ∧ Below B w w1)
  clear r1 r2 r3
  go_wp2
  go_end0
  exact ⟨rfl, Q.out⟩
theorem nw_bl {n : Nat} (h : 0 < n) : nw n = (bl n + 63) / 64 := by
  have e := bl_words h
  have h1 := bl_le64 (wdg_lt n (nw n - 1))
  have h2 := bl_pos (Nat.pos_of_ne_zero (wdg_last h))
  have h3 := nw_pos h
  omega
def topN (M : Nat) : List Nat := wdsN (M * 2 ^ (64 * nw M - bl M)) (nw M)
theorem topN_length (M : Nat) : (topN M).length = nw M := wdsN_length _ _
theorem topN_wv {M : Nat} (h : 0 < M) : wv (topN M) = M * 2 ^ (64 * nw M - bl M) := by
  have hb := nw_bl h
  have hbp := bl_pos h
  unfold topN
  rw [wdsN_wv]
  refine Nat.mod_eq_of_lt ?_
  have e : (18446744073709551616 : Nat) ^ nw M = 2 ^ bl M * 2 ^ (64 * nw M - bl M) := by rw [show (18446744073709551616 : Nat) = 2 ^ 64 from rfl, ← Nat.pow_mul, ← Nat.pow_add]; congr 1; omega
  rw [e]
  exact Nat.mul_lt_mul_of_pos_right (lt_bl M) (Nat.pow_pos (by decide))
theorem topN_fits {M p : Nat} (h : 0 < M) (hp : bl M ≤ p) : Fits (topN M) p := by
  have hb := nw_bl h
  have hbp := bl_pos h
  unfold Fits
  rw [topN_length, topN_wv h]
  by_cases hc : 64 * nw M ≤ p
  · exact .inl hc
  · refine .inr ⟨by omega, ?_, by omega⟩
    have e : 64 * nw M - bl M = (64 * nw M - p) + (p - bl M) := by omega
    rw [e, Nat.pow_add, ← Nat.mul_assoc, Nat.mul_comm M, Nat.mul_assoc]
    exact Nat.mul_mod_right _ _
set_option maxRecDepth 100000 in
set_option maxHeartbeats 1600000 in
theorem setInt_exact (b B c Bc p m M : Nat) (a e : Int) (neg0 : Bool) (w : World) (h : FltR w b p m a 0 neg0 (.slice none 0 0) e) (hB : B ≤ b) (hx : IntP w Bc c false M) (hbc : b ≠ c) (h0 : 0 < M) (hM : bl M ≤ p) (hp : p ≤ 64000000) :
    Calls Tryz.prog 95 #[.pointer (some ⟨b, 0, none⟩), .pointer (some ⟨c, 0, none⟩)] w fun e' w' => e' = .returned (.pointer (some ⟨b, 0, none⟩)) ∧ ∃ v, FltR w' b p m 0 1 false v (bl M : Nat) ∧ Own w' B 116 v (cellsW (topN M)) ∧ Below B w w' := by
  obtain ⟨vx, hcB, hrc, hox⟩ := hx
  have hbp := bl_pos h0
  have hnb := nw_bl h0
  have hnp := nw_pos h0
  have hblt := h.lt
  obtain ⟨c0, c1, c2, c3, c4, c5, c6⟩ := h.cells
  obtain ⟨f0, f1, f2, f3, f4, f5, f6⟩ := h.free
  have d0 : w.cell? ⟨c, 0, none⟩ = some (.bool false) := (row_at (i := 0) hrc rfl).1
  have d1 : w.cell? ⟨c, 1, none⟩ = some vx := (row_at (i := 1) hrc rfl).1
  have hS := hox.isS
  have hLx : sLen vx = nw M := by rw [hox.len, cellsW_length, wds_length]
  have hbc1 : ¬ b = c := hbc
  have hbc2 : ¬ c = b := fun h => hbc h.symm
  have tp : ((p : Int) == 0) = false := by rw [beq_eq_false_iff_ne]; omega
  have tl : ((nw M : Int) == 0) = false := by rw [beq_eq_false_iff_ne]; omega
  have R4 := Lib.hid ((h.s2 0).s4 false)
  have V4 := Lib.hid (((h.s2 0).own (h.own hox 2 (.int .i8 0)) 4 (.bool false)).rw' (wds_all M))
  have B4 := Lib.hid (bset (i := 4) (u := .bool false) (bset (i := 2) (u := .int .i8 0) (Below.refl B w) hB) hB)
  have VX := Lib.hid (hox.rw' (wds_all M))
  have HT := Lib.hid (topN_fits h0 hM)
  have H0 := Lib.hid h0
  obtain ⟨L, hL⟩ : ∃ L, L = nw M := ⟨_, rfl⟩
  obtain ⟨l, hl⟩ : ∃ l, l = bl M := ⟨_, rfl⟩
  rw [← hL] at hLx tl hnp hnb
  rw [← hl] at hM hbp hnb ⊢
  have hLl : L ≤ 1000000 := by omega
  have HL := Lib.hid hL
  have Hl := Lib.hid hl
  clear h hrc hox h0 hL hl hnb
  go_enter Tryz.func95, Tryz.ntmps95
  go_wp2_with fail
  refine (intBitLen c 0 vx M w d1 VX.out (by rw [← HL.out]; omega)).mono ?_
  rintro _ _ ⟨rfl, rfl⟩
  rw [← Hl.out]
  go_wp2
  (refine wp_region_hoist 9 (by kernel_rfl) (by kernel_rfl) ⟨fun _ _ _ h => (by first | exact (hQp _ _ _ h).elim | cases h.2.1 | (obtain ⟨_, h3, _⟩ := h.2; cases h3)), fun _ _ h => (by first | exact (hQo _ _ h).elim | cases h.1 | (obtain ⟨_, h3, _⟩ := h; cases h3))⟩ ?_; simp only [List.take_succ_cons, List.take_zero, List.drop_succ_cons, List.drop_zero]; (repeat (go_big_quiet_step (fail))); refine wpQuiet_nil ?_; rintro _ ⟨nq, rfl⟩)
  go_wp2_with fail
  refine (set_nil vx (wds M) _ (V4.out.drewN _) (by rw [wds_length, ← HL.out]; omega)).mono ?_
  rintro _ w5 ⟨r, rfl, ho, hb⟩
  have hSr := ho.isS
  have hb' := undrewN hb
  have R5 := R4.out.below hb'
  have B5 := B4.out.trans (hb'.mono (by simp; omega))
  have O5 : Own w5 B 116 r (cellsW (wds M)) := ho.mono (show B ≤ _ by simp; omega)
  obtain ⟨g0, g1, g2, g3, g4, g5, g6⟩ := R5.cells
  obtain ⟨k0, k1, k2, k3, k4, k5, k6⟩ := R5.free
  have R6 := Lib.hid (R5.s5 r)
  have O6 := Lib.hid (R5.own O5 5 r)
  have B6 := Lib.hid (bset (i := 5) (u := r) B5 hB)
  clear ho hb hb' R5 B5 O5 c0 c1 c2 c3 c4 c5 c6 f0 f1 f2 f3 f4 f5 f6
  go_wp2_with fail
  refine (fnorm_any r M B _ O6.out H0.out (by rw [← HL.out]; omega)).mono ?_
  rintro _ w7 ⟨⟨z, rfl⟩, ho7, hb7, hon7⟩
  have hcap : 0 < sCap r := by
    have h1 := hSr.le
    have h2 : sLen r = nw M := by rw [O6.out.len, cellsW_length, wds_length]
    have := HL.out
    omega
  have hrb := O6.out.ne_row R6.out (by decide) hcap
  have R7 : FltR w7 b p m 0 0 false r e := (hon7 b R6.out.lt hrb.symm).trans R6.out
  have HR7 := Lib.hid R7
  have HO7 := Lib.hid ho7
  have B7 := Lib.hid (B6.out.trans hb7)
  clear R7 ho7 hb7 hon7 hrb g0 g1 g2 g3 g4 g5 g6 k0 k1 k2 k3 k4 k5 k6
  go_wp2_with fail
  refine (setExp_exact b B p m 0 0 e (l : Int) false r (topN M) w7 HR7.out hB HO7.out wdsN_lt HT.out (by rw [topN_length, ← HL.out]; exact hnp) (by rw [topN_length, ← HL.out]; exact hLl) (by omega) hp (by omega) (by omega)).mono ?_
  rintro _ w8 ⟨rfl, r1, r2, r3⟩
  have Q := Lib.hid (⟨r1, r2, B7.out.trans r3⟩ : FltR w8 b p m 0 1 false r (l : Int) ∧ Own w8 B 116 r (cellsW (topN M)) ∧ Below B w w8)
  clear r1 r2 r3
  go_wp2
  go_ret
  exact ⟨rfl, r, Q.out⟩
def SIV (w : World) (B b m : Nat) (x : Int) : Prop :=
  (x = 0 ∧ ∃ v e, FltR w b 64 m 0 0 false v e) ∨
  (x ≠ 0 ∧ ∃ v, FltR w b 64 m 0 1 (decide (x < 0)) v (bl x.natAbs : Nat) ∧ Own w B 116 v (cellsW [x.natAbs * 2 ^ (64 - bl x.natAbs)]))
def topW (xs : List Nat) (k : Nat) : Nat := if k < xs.length then xs.getD (xs.length - 1 - k) 0 else 0
def topV (xs : List Nat) (n : Nat) : Nat := wv xs * 18446744073709551616 ^ n
theorem wdg_mul_pow (n j i : Nat) : wdg (n * 18446744073709551616 ^ j) i = if i < j then 0 else wdg n (i - j) := by
  unfold wdg
  split
  · rename_i h
    obtain ⟨t, rfl⟩ : ∃ t, j = i + 1 + t := ⟨j - i - 1, by omega⟩
    have : n * 18446744073709551616 ^ (i + 1 + t) = 18446744073709551616 ^ i * (18446744073709551616 * (n * 18446744073709551616 ^ t)) := by
      rw [Nat.pow_add, Nat.pow_succ]; grind
    rw [this, Nat.mul_div_cancel_left _ (wpow_pos i)]; omega
  · rename_i h
    obtain ⟨t, rfl⟩ : ∃ t, i = j + t := ⟨i - j, by omega⟩
    rw [Nat.add_sub_cancel_left, Nat.pow_add, ← Nat.div_div_eq_div_mul, Nat.mul_div_cancel _ (wpow_pos j)]
theorem topV_wdg {xs : List Nat} (h : ∀ d ∈ xs, d < 18446744073709551616) {n k : Nat} (hk : k < xs.length + n) : wdg (topV xs n) (xs.length + n - 1 - k) = topW xs k := by
  unfold topV topW
  rw [wdg_mul_pow]
  by_cases h1 : k < xs.length
  · rw [if_neg (by omega), if_pos h1, wv_dig h, show xs.length + n - 1 - k - n = xs.length - 1 - k by omega]
  · rw [if_pos (by omega), if_neg h1]
theorem topV_lt {xs : List Nat} (h : ∀ d ∈ xs, d < 18446744073709551616) (n : Nat) : topV xs n < 18446744073709551616 ^ (xs.length + n) := by
  unfold topV
  rw [Nat.pow_add]
  exact Nat.mul_lt_mul_of_pos_right (wv_lt h) (wpow_pos n)
theorem lt_of_wdg' {x y i : Nat} (he : x / 18446744073709551616 ^ (i + 1) = y / 18446744073709551616 ^ (i + 1)) (h : wdg x i < wdg y i) : x < y := by
  have h1 := wdv_step x i
  have h2 := wdv_step y i
  refine Nat.lt_of_not_le fun hc => ?_
  have := Nat.div_le_div_right (c := 18446744073709551616 ^ i) hc
  omega
def ucmpV (e1 e2 : Int) (xs ys : List Nat) : Int := if e1 < e2 then -1 else if e2 < e1 then 1 else cmpN (topV xs ys.length) (topV ys xs.length)
def Alike (xs ys : List Nat) (k : Nat) : Prop := topV xs ys.length / 18446744073709551616 ^ (xs.length + ys.length - k) = topV ys xs.length / 18446744073709551616 ^ (xs.length + ys.length - k)
theorem Alike.start {xs ys : List Nat} (hx : ∀ d ∈ xs, d < 18446744073709551616) (hy : ∀ d ∈ ys, d < 18446744073709551616) : Alike xs ys 0 := by
  unfold Alike
  rw [Nat.sub_zero, Nat.div_eq_of_lt (topV_lt hx _), Nat.div_eq_of_lt (by rw [Nat.add_comm]; exact topV_lt hy _)]
theorem Alike.next {xs ys : List Nat} (hx : ∀ d ∈ xs, d < 18446744073709551616) (hy : ∀ d ∈ ys, d < 18446744073709551616) {k : Nat} (hk : k < xs.length + ys.length) (h : Alike xs ys k) (he : topW xs k = topW ys k) : Alike xs ys (k + 1) := by
  unfold Alike at *
  have h1 := topV_wdg hx (n := ys.length) hk
  have h2 := topV_wdg hy (n := xs.length) (show k < ys.length + xs.length by omega)
  rw [Nat.add_comm ys.length] at h2
  obtain ⟨j, hj⟩ : ∃ j, xs.length + ys.length - 1 - k = j := ⟨_, rfl⟩
  rw [hj] at h1 h2
  rw [show xs.length + ys.length - k = j + 1 by omega] at h
  rw [show xs.length + ys.length - (k + 1) = j by omega, wdv_step _ j, wdv_step (topV ys _) j, h, h1, h2, he]
theorem Alike.less {xs ys : List Nat} (hx : ∀ d ∈ xs, d < 18446744073709551616) (hy : ∀ d ∈ ys, d < 18446744073709551616) {k : Nat} (hk : k < xs.length + ys.length) (h : Alike xs ys k) (hl : topW xs k < topW ys k) : topV xs ys.length < topV ys xs.length := by
  unfold Alike at *
  have h1 := topV_wdg hx (n := ys.length) hk
  have h2 := topV_wdg hy (n := xs.length) (show k < ys.length + xs.length by omega)
  rw [Nat.add_comm ys.length] at h2
  obtain ⟨j, hj⟩ : ∃ j, xs.length + ys.length - 1 - k = j := ⟨_, rfl⟩
  rw [hj] at h1 h2
  rw [show xs.length + ys.length - k = j + 1 by omega] at h
  exact lt_of_wdg' h (by rw [h1, h2]; exact hl)
theorem Alike.symm {xs ys : List Nat} {k : Nat} (h : Alike xs ys k) : Alike ys xs k := by
  unfold Alike at *; rw [Nat.add_comm]; exact Eq.symm h
theorem Alike.full {xs ys : List Nat} {k : Nat} (hx : ∀ d ∈ xs, d < 18446744073709551616) (hy : ∀ d ∈ ys, d < 18446744073709551616) (h : Alike xs ys k) (h1 : xs.length ≤ k) (h2 : ys.length ≤ k) : topV xs ys.length = topV ys xs.length := by
  have step : ∀ n, k + n ≤ xs.length + ys.length → Alike xs ys (k + n) := by
    intro n
    induction n with
    | zero => intro _; exact h
    | succ n ih =>
      intro hn
      exact (ih (by omega)).next (k := k + n) hx hy (by omega) (by unfold topW; rw [if_neg (show ¬ k + n < xs.length by omega), if_neg (show ¬ k + n < ys.length by omega)])
  by_cases hk : k ≤ xs.length + ys.length
  · have := step (xs.length + ys.length - k) (by omega)
    rw [show k + (xs.length + ys.length - k) = xs.length + ys.length by omega] at this
    unfold Alike at this
    simpa using this
  · unfold Alike at h
    rw [show xs.length + ys.length - k = 0 by omega] at h
    simpa using h
theorem ucmpV_lt {e1 e2 : Int} (xs ys : List Nat) (h : e1 < e2) : ucmpV e1 e2 xs ys = -1 := if_pos h
theorem ucmpV_gt {e1 e2 : Int} (xs ys : List Nat) (h : e2 < e1) : ucmpV e1 e2 xs ys = 1 := by unfold ucmpV; rw [if_neg (by omega), if_pos h]
theorem ucmpV_eq (e : Int) (xs ys : List Nat) : ucmpV e e xs ys = cmpN (topV xs ys.length) (topV ys xs.length) := by unfold ucmpV; rw [if_neg (by omega), if_neg (by omega)]
theorem topW_ge {xs : List Nat} {k : Nat} (h : xs.length ≤ k) : topW xs k = 0 := by unfold topW; rw [if_neg (by omega)]
theorem topW_in {xs : List Nat} {k j : Nat} (h : xs.length - k = j + 1) : topW xs k = xs.getD j 0 := by unfold topW; rw [if_pos (by omega), show xs.length - 1 - k = j by omega]
set_option maxRecDepth 100000 in
set_option maxHeartbeats 1600000 in
theorem ucmp_any (b1 b2 p1 m1 f1 p2 m2 f2 : Nat) (a1 e1 a2 e2 : Int) (n1 n2 : Bool) (v1 v2 : Value) (xs ys : List Nat) (w : World) (h1 : FltR w b1 p1 m1 a1 f1 n1 v1 e1) (h2 : FltR w b2 p2 m2 a2 f2 n2 v2 e2) (r1 : RW w v1 xs) (r2 : RW w v2 ys) (hl1 : xs.length ≤ 1000000000) (hl2 : ys.length ≤ 1000000000) :
    Calls Tryz.prog 146 #[.pointer (some ⟨b1, 0, none⟩), .pointer (some ⟨b2, 0, none⟩)] w fun e' w' => e' = .returned (.int .i64 (ucmpV e1 e2 xs ys)) ∧ ∃ n, w' = w.drewN n := by
  obtain ⟨-, -, -, -, -, c5, c6⟩ := h1.cells
  obtain ⟨-, -, -, -, -, d5, d6⟩ := h2.cells
  have hS1 := r1.isS
  have hS2 := r2.isS
  have hL1 := r1.len
  have hL2 := r2.len
  have hx := r1.lt
  have hy := r2.lt
  obtain ⟨lx, hlx⟩ : ∃ lx, lx = xs.length := ⟨_, rfl⟩
  obtain ⟨ly, hly⟩ : ∃ ly, ly = ys.length := ⟨_, rfl⟩
  rw [← hlx] at hL1 hl1
  rw [← hly] at hL2 hl2
  have HLX := Lib.hid hlx
  have HLY := Lib.hid hly
  have HX := Lib.hid hx
  have HY := Lib.hid hy
  have HR1 := Lib.hid r1
  have HR2 := Lib.hid r2
  clear h1 h2 r1 r2 hlx hly hx hy
  by_cases h1 : e1 < e2
  · have t1 : decide (e1 < e2) = true := decide_eq_true h1
    have HE := Lib.hid h1
    clear h1
    go_enter Tryz.func146, Tryz.ntmps146
    go_wp2
    go_quiet (fail)
    go_wp2
    go_ret
    exact ⟨ret_int (ucmpV_lt _ _ HE.out).symm, _, rfl⟩
  · have t1 : decide (e1 < e2) = false := decide_eq_false h1
    by_cases h2 : e2 < e1
    · have t2 : decide (e2 < e1) = true := decide_eq_true h2
      have HE := Lib.hid h2
      clear h1 h2
      go_enter Tryz.func146, Tryz.ntmps146
      go_wp2
      go_quiet (fail)
      go_wp2
      go_quiet (fail)
      go_wp2
      go_ret
      exact ⟨ret_int (ucmpV_gt _ _ HE.out).symm, by simp only [World.drewN_drewN]; exact ⟨_, rfl⟩⟩
    · obtain rfl : e1 = e2 := by omega
      have t2 : decide (e1 < e1) = false := decide_eq_false (by omega)
      clear h1 h2
      go_enter Tryz.func146, Tryz.ntmps146
      go_wp2
      go_quiet (fail)
      go_wp2
      go_quiet (fail)
      go_wp2
      go_loopw [5, 6] (fun i j wr => ∃ k : Nat, i = .int .i64 ((lx - k : Nat) : Int) ∧ j = .int .i64 ((ly - k : Nat) : Int) ∧ Alike xs ys k ∧ ∃ n, wr = w.drewN n) (fun i j _ => (intOf i).toNat + (intOf j).toNat)
      case atStart => exact ⟨0, by simp, by simp, Alike.start HX.out HY.out, by first | exact ⟨_, rfl⟩ | (simp only [World.drewN_drewN]; exact ⟨_, rfl⟩)⟩
      case round =>
        obtain ⟨k, rfl, rfl, hA, nn, rfl⟩ := hrel
        have HA := Lib.hid hA
        clear hA
        obtain ⟨i, hi⟩ : ∃ i, i = lx - k := ⟨_, rfl⟩
        obtain ⟨j, hj⟩ : ∃ j, j = ly - k := ⟨_, rfl⟩
        rw [← hi, ← hj]
        have HI := Lib.hid hi
        have HJ := Lib.hid hj
        have hile : i ≤ lx := by omega
        have hjle : j ≤ ly := by omega
        clear hi hj
        -- THE ROUND
        have tx : ∀ i', i = i' + 1 → topW xs k = xs.getD i' 0 := fun i' h => topW_in (by rw [← HLX.out, ← HI.out]; exact h)
        have ty : ∀ j', j = j' + 1 → topW ys k = ys.getD j' 0 := fun j' h => topW_in (by rw [← HLY.out, ← HJ.out]; exact h)
        have tx0 : i = 0 → topW xs k = 0 := fun h => topW_ge (by rw [← HLX.out]; have := HI.out; omega)
        have ty0 : j = 0 → topW ys k = 0 := fun h => topW_ge (by rw [← HLY.out]; have := HJ.out; omega)
        have TX := Lib.hid tx
        have TY := Lib.hid ty
        have TX0 := Lib.hid tx0
        have TY0 := Lib.hid ty0
        have lt_of : 0 < i ∨ 0 < j → topW xs k < topW ys k → ucmpV e1 e1 xs ys = -1 := fun h hl => by
          rw [ucmpV_eq]; exact cmpN_lt (HA.out.less HX.out HY.out (by rw [← HLX.out, ← HLY.out]; have := HI.out; have := HJ.out; omega) hl)
        have gt_of : 0 < i ∨ 0 < j → topW ys k < topW xs k → ucmpV e1 e1 xs ys = 1 := fun h hl => by
          rw [ucmpV_eq]; exact cmpN_gt (HA.out.symm.less HY.out HX.out (by rw [← HLX.out, ← HLY.out]; have := HI.out; have := HJ.out; omega) hl)
        have nx : 0 < i ∨ 0 < j → topW xs k = topW ys k → Alike xs ys (k + 1) := fun h he => HA.out.next HX.out HY.out (by rw [← HLX.out, ← HLY.out]; have := HI.out; have := HJ.out; omega) he
        have LT := Lib.hid lt_of
        have GT := Lib.hid gt_of
        have NX := Lib.hid nx
        clear tx ty tx0 ty0 lt_of gt_of nx
        by_cases hi0 : i = 0
        · subst hi0
          by_cases hj0 : j = 0
          · subst hj0
            go_wp2
            go_ret
            refine ⟨ret_int ?_, _, rfl⟩
            rw [ucmpV_eq, HA.out.full HX.out HY.out (by rw [← HLX.out]; have := HI.out; omega) (by rw [← HLY.out]; have := HJ.out; omega), cmpN_eq]
          · obtain ⟨j', rfl⟩ : ∃ j', j = j' + 1 := ⟨j - 1, by omega⟩
            have cy := HR2.out.cell j' (by rw [← HLY.out]; omega)
            obtain ⟨q, hq⟩ : ∃ q, q = ys.getD j' 0 := ⟨_, rfl⟩
            rw [← hq] at cy
            have Hq := Lib.hid (hq.trans (TY.out _ rfl).symm)
            have ej : (((j' + 1 : Nat)) : Int) - 1 = (j' : Int) := by omega
            clear hq hj0
            have hjl : j' < ly := by omega
            have p0 := TX0.out rfl
            have HP0 := Lib.hid p0
            clear p0
            by_cases h3 : 0 < q
            · have t3 : decide (0 < q) = true := decide_eq_true h3
              go_wp2
              go_ret
              exact ⟨ret_int (LT.out (.inr (by omega)) (by rw [HP0.out, ← Hq.out]; exact h3)).symm, _, rfl⟩
            · have t3 : decide (0 < q) = false := decide_eq_false h3
              have hq0 : q = 0 := by omega
              have HQ0 := Lib.hid hq0
              clear hq0 h3
              go_wp2
              refine ⟨⟨k + 1, by rw [show lx - (k + 1) = 0 by have := HI.out; omega], by rw [show ly - (k + 1) = j' by have := HJ.out; omega], NX.out (.inr (by omega)) (by rw [HP0.out, ← Hq.out, HQ0.out]), _, rfl⟩, by simp [intOf] <;> omega⟩
        · obtain ⟨i', rfl⟩ : ∃ i', i = i' + 1 := ⟨i - 1, by omega⟩
          have cx := HR1.out.cell i' (by rw [← HLX.out]; omega)
          obtain ⟨p, hp⟩ : ∃ p, p = xs.getD i' 0 := ⟨_, rfl⟩
          rw [← hp] at cx
          have Hp := Lib.hid (hp.trans (TX.out _ rfl).symm)
          have ei : (((i' + 1 : Nat)) : Int) - 1 = (i' : Int) := by omega
          clear hp hi0
          have hil : i' < lx := by omega
          by_cases hj0 : j = 0
          · subst hj0
            have q0 := TY0.out rfl
            have HQ0 := Lib.hid q0
            clear q0
            by_cases h3 : 0 < p
            · have t3 : decide (0 < p) = true := decide_eq_true h3
              go_wp2
              go_ret
              exact ⟨ret_int (GT.out (.inl (by omega)) (by rw [HQ0.out, ← Hp.out]; exact h3)).symm, _, rfl⟩
            · have t3 : decide (0 < p) = false := decide_eq_false h3
              have hp0 : p = 0 := by omega
              have HP0 := Lib.hid hp0
              clear hp0 h3
              go_wp2
              refine ⟨⟨k + 1, by rw [show lx - (k + 1) = i' by have := HI.out; omega], by rw [show ly - (k + 1) = 0 by have := HJ.out; omega], NX.out (.inl (by omega)) (by rw [HQ0.out, ← Hp.out, HP0.out]), _, rfl⟩, by simp [intOf] <;> omega⟩
          · obtain ⟨j', rfl⟩ : ∃ j', j = j' + 1 := ⟨j - 1, by omega⟩
            have cy := HR2.out.cell j' (by rw [← HLY.out]; omega)
            obtain ⟨q, hq⟩ : ∃ q, q = ys.getD j' 0 := ⟨_, rfl⟩
            rw [← hq] at cy
            have Hq := Lib.hid (hq.trans (TY.out _ rfl).symm)
            have ej : (((j' + 1 : Nat)) : Int) - 1 = (j' : Int) := by omega
            clear hq hj0
            have hjl : j' < ly := by omega
            by_cases h3 : p < q
            · have t3 : decide (p < q) = true := decide_eq_true h3
              go_wp2
              go_ret
              exact ⟨ret_int (LT.out (.inl (by omega)) (by rw [← Hp.out, ← Hq.out]; exact h3)).symm, _, rfl⟩
            · have t3 : decide (p < q) = false := decide_eq_false h3
              by_cases h4 : q < p
              · have t4 : decide (q < p) = true := decide_eq_true h4
                go_wp2
                go_ret
                exact ⟨ret_int (GT.out (.inl (by omega)) (by rw [← Hp.out, ← Hq.out]; exact h4)).symm, _, rfl⟩
              · have t4 : decide (q < p) = false := decide_eq_false h4
                have hpq : p = q := by omega
                have HPQ := Lib.hid hpq
                clear hpq h3 h4
                go_wp2
                refine ⟨⟨k + 1, by rw [show lx - (k + 1) = i' by have := HI.out; omega], by rw [show ly - (k + 1) = j' by have := HJ.out; omega], NX.out (.inl (by omega)) (by rw [← Hp.out, ← Hq.out, HPQ.out]), _, rfl⟩, by simp [intOf] <;> omega⟩
theorem cmpN_mul (x y : Nat) {S : Nat} (h : 0 < S) : cmpN (x * S) (y * S) = cmpN x y := by
  rcases Nat.lt_trichotomy x y with h1 | h1 | h1
  · rw [cmpN_lt h1, cmpN_lt (Nat.mul_lt_mul_of_pos_right h1 h)]
  · rw [h1, cmpN_eq, cmpN_eq]
  · rw [cmpN_gt h1, cmpN_gt (Nat.mul_lt_mul_of_pos_right h1 h)]
theorem SIV.below {w w' : World} {B b m : Nat} {x : Int} (h : SIV w B b m x) (hb : Below w.heap.size w w') : SIV w' B b m x := by
  rcases h with ⟨h0, v, e, hF⟩ | ⟨h0, v, hF, ho⟩
  · exact .inl ⟨h0, v, e, hF.below hb⟩
  · exact .inr ⟨h0, v, hF.below hb, ho.below hb⟩
def newF : Obj := .cells #[.int .u32 0, .int .u8 0, .int .i8 0, .int .u8 0, .bool false, .slice none 0 0, .int .i32 0] 129
theorem newF_row (w : World) : FltR (w.alloc newF) w.heap.size 0 0 0 0 false (.slice none 0 0) 0 := box_row (Below.refl _ _)
end Go.Proofs.YtllhnjpnkmjopaaGreatDoor
