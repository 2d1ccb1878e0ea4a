/-
Texts of this proof, joined: TwA FcC. No condition.
-/
import Derived.Test.YtlgnaioodnhkjaaK21
import Derived.Test.YtlgnaioodnhkjaaK22
/-
A number of 64 bits as a float's mantissa. No condition.
-/
namespace Go.Proofs.Ytlgnaioodnhkjaa
open Go.RowKit

theorem topN_word {M : Nat} (h : 0 < M) (hM : M < 18446744073709551616) : topN M = [M * 2 ^ (64 - bl M)] := by
  have hb : bl M ≤ 64 := bl_le (k := 64) hM
  have hp := bl_pos h
  have hn : nw M = 1 := by have := nw_bl h; omega
  have hl : M * 2 ^ (64 - bl M) < 18446744073709551616 := by
    have h1 : M * 2 ^ (64 - bl M) < 2 ^ bl M * 2 ^ (64 - bl M) := Nat.mul_lt_mul_of_pos_right (lt_bl M) (Nat.two_pow_pos _)
    rw [← Nat.pow_add, show bl M + (64 - bl M) = 64 by omega] at h1
    exact h1
  unfold topN wdsN
  rw [hn, Nat.mul_one]
  simp only [List.range_succ, List.range_zero, List.nil_append, List.map_cons, List.map_nil]
  unfold wdg
  rw [Nat.pow_zero, Nat.div_one, Nat.mod_eq_of_lt hl]
end Go.Proofs.Ytlgnaioodnhkjaa

/-
Floats: SetFloat64 of a new receiver of any precision, by values. No condition.
-/
namespace Go.Proofs.Ytlgnaioodnhkjaa
open Go.RowKit

theorem obM_zero {b : Nat} (h : b % 9223372036854775808 = 0) : obM b = 0 := by unfold obM; rw [if_pos (by omega), h]
theorem obM_pos {b : Nat} (h : 0 < b % 9223372036854775808) : 0 < obM b := by unfold obM; split <;> omega
theorem bl_obM (b : Nat) : bl (obM b) ≤ 53 := bl_le (show obM b < 2 ^ 53 by have := obM_bd b; omega)
set_option maxRecDepth 100000 in
set_option maxHeartbeats 3200000 in
theorem setF64_inf (b B p m f : Nat) (a e : Int) (neg0 : Bool) (x : Nat) (w : World) (h : FltR w b p m a f neg0 (.slice none 0 0) e) (hB : B ≤ b) (hp : p ≤ 64000000) (_hm : m ≤ 5) (hx : x < 18446744073709551616) (hi : x % 9223372036854775808 = 9218868437227405312) :
    Calls Try.prog 40 #[.pointer (some ⟨b, 0, none⟩), .float .f64 x] w fun e' w' => e' = .returned (.pointer (some ⟨b, 0, none⟩)) ∧ FltR w' b (pD p 53) m 0 2 (obN x) (.slice none 0 0) e ∧ Below B w w' := by
  obtain ⟨c0, c1, c2, c3, c4, c5, c6⟩ := h.cells
  obtain ⟨f0, f1, f2, f3, f4, f5, f6⟩ := h.free
  have hlt := h.lt
  have hq0 : 0 < pD p 53 := pD_pos (by decide)
  have hqb : pD p 53 ≤ 64000000 := pD_le hp (by decide)
  have HNA := Lib.hid (fun W => mIsNaN x W hx (.inr hi))
  have HSB := Lib.hid (fun W => mSignbit x W hx)
  have HIN := Lib.hid (fun W => mIsInf x true W hx (by rw [hi]; exact ord_max_inf))
  have hz := ord_zero_inf hx hi
  obtain ⟨n, hn⟩ : ∃ n, n = obN x := ⟨_, rfl⟩
  rw [← hn] at HSB ⊢
  clear hi hn hq0 hqb
  by_cases hp0 : p = 0
  · have t0 : ((p : Int) == 0) = true := by rw [hp0]; rfl
    have HP : pD p 53 = 53 := by unfold pD; rw [if_pos hp0]
    have R4 := Lib.hid ((((h.s0 53).s2 0).s4 n).s3 2)
    have B4 := Lib.hid (bset (i := 3) (u := .int .u8 (2 : Int)) (bset (i := 4) (u := .bool n) (bset (i := 2) (u := .int .i8 0) (bset (i := 0) (u := .int .u32 (53 : Int)) (Below.refl B w) hB) hB) hB) hB)
    rw [HP]
    clear h hp0 HP
    go_enter Try.func40, Try.ntmps40
    go_wp2_with fail
    refine (HNA.out _).mono ?_
    rintro _ _ ⟨rfl, rfl⟩
    go_wp2_with fail
    refine (HSB.out _).mono ?_
    rintro _ _ ⟨rfl, rfl⟩
    go_wp2_with fail
    refine (HIN.out _).mono ?_
    rintro _ _ ⟨rfl, rfl⟩
    go_wp2
    go_ret
    exact ⟨rfl, R4.out, B4.out⟩
  · have t0 : ((p : Int) == 0) = false := by rw [beq_eq_false_iff_ne]; omega
    have HP : pD p 53 = p := by unfold pD; rw [if_neg hp0]
    have R4 := Lib.hid (((h.s2 0).s4 n).s3 2)
    have B4 := Lib.hid (bset (i := 3) (u := .int .u8 (2 : Int)) (bset (i := 4) (u := .bool n) (bset (i := 2) (u := .int .i8 0) (Below.refl B w) hB) hB) hB)
    rw [HP]
    clear h hp0 HP
    go_enter Try.func40, Try.ntmps40
    go_wp2_with fail
    refine (HNA.out _).mono ?_
    rintro _ _ ⟨rfl, rfl⟩
    go_wp2_with fail
    refine (HSB.out _).mono ?_
    rintro _ _ ⟨rfl, rfl⟩
    go_wp2_with fail
    refine (HIN.out _).mono ?_
    rintro _ _ ⟨rfl, rfl⟩
    go_wp2
    go_ret
    exact ⟨rfl, R4.out, B4.out⟩
set_option maxRecDepth 100000 in
set_option maxHeartbeats 3200000 in
theorem setF64_val (b B p m f : Nat) (a e : Int) (neg0 : Bool) (x : Nat) (w : World) (h : FltR w b p m a f neg0 (.slice none 0 0) e) (hB : B ≤ b) (hp : p ≤ 64000000) (hm : m ≤ 5) (hx : x < 18446744073709551616) (hf : obF x) :
    Calls Try.prog 40 #[.pointer (some ⟨b, 0, none⟩), .float .f64 x] w fun e' w' => e' = .returned (.pointer (some ⟨b, 0, none⟩)) ∧ FVal w' B b (pD p 53) m (sbA (pD p 53) m (obN x) (obM x)) (fO (obM x)) (obN x) (rQ (pD p 53) m (obN x) 0 (obM x)) (obE x + rk (pD p 53) (obM x)) ∧ Below B w w' := by
  obtain ⟨c0, c1, c2, c3, c4, c5, c6⟩ := h.cells
  obtain ⟨f0, f1, f2, f3, f4, f5, f6⟩ := h.free
  have hlt := h.lt
  have hq0 : 0 < pD p 53 := pD_pos (by decide)
  have hqb : pD p 53 ≤ 64000000 := pD_le hp (by decide)
  have HNA := Lib.hid (fun W => mIsNaN x W hx (.inl hf))
  have HSB := Lib.hid (fun W => mSignbit x W hx)
  have HIN := Lib.hid (fun W => mIsInf x false W hx (ord_max (r := x % 9223372036854775808) hf))
  have hz := ord_zero hx hf
  rcases Nat.eq_zero_or_pos (x % 9223372036854775808) with hx0 | hx0
  · have hM := obM_zero hx0
    rw [hM, decide_eq_true rfl] at hz
    rw [hM]
    obtain ⟨n, hn⟩ : ∃ n, n = obN x := ⟨_, rfl⟩
    rw [← hn] at HSB ⊢
    have HF : Hid (∀ w', FltR w' b (pD p 53) m 0 0 n (.slice none 0 0) e → FVal w' B b (pD p 53) m (sbA (pD p 53) m n 0) (fO 0) n (rQ (pD p 53) m n 0 0) (obE x + rk (pD p 53) 0)) := Lib.hid (fun w' hw => ⟨_, _, hw, fun hc => absurd hc (by decide)⟩)
    clear hx0 hn hM hf hq0 hqb HIN
    by_cases hp0 : p = 0
    · have t0 : ((p : Int) == 0) = true := by rw [hp0]; rfl
      have HP : pD p 53 = 53 := by unfold pD; rw [if_pos hp0]
      have R4 := Lib.hid ((((h.s0 53).s2 0).s4 n).s3 0)
      have B4 := Lib.hid (bset (i := 3) (u := .int .u8 (0 : Int)) (bset (i := 4) (u := .bool n) (bset (i := 2) (u := .int .i8 0) (bset (i := 0) (u := .int .u32 (53 : Int)) (Below.refl B w) hB) hB) hB) hB)
      rw [HP] at HF ⊢
      clear h hp0 HP
      go_enter Try.func40, Try.ntmps40
      go_wp2_with fail
      refine (HNA.out _).mono ?_
      rintro _ _ ⟨rfl, rfl⟩
      go_wp2_with fail
      refine (HSB.out _).mono ?_
      rintro _ _ ⟨rfl, rfl⟩
      go_wp2
      go_ret
      exact ⟨rfl, HF.out _ R4.out, B4.out⟩
    · have t0 : ((p : Int) == 0) = false := by rw [beq_eq_false_iff_ne]; omega
      have HP : pD p 53 = p := by unfold pD; rw [if_neg hp0]
      have R4 := Lib.hid (((h.s2 0).s4 n).s3 0)
      have B4 := Lib.hid (bset (i := 3) (u := .int .u8 (0 : Int)) (bset (i := 4) (u := .bool n) (bset (i := 2) (u := .int .i8 0) (Below.refl B w) hB) hB) hB)
      rw [HP] at HF ⊢
      clear h hp0 HP
      go_enter Try.func40, Try.ntmps40
      go_wp2_with fail
      refine (HNA.out _).mono ?_
      rintro _ _ ⟨rfl, rfl⟩
      go_wp2_with fail
      refine (HSB.out _).mono ?_
      rintro _ _ ⟨rfl, rfl⟩
      go_wp2
      go_ret
      exact ⟨rfl, HF.out _ R4.out, B4.out⟩
  · have hM := obM_pos hx0
    rw [decide_eq_false (by omega)] at hz
    obtain ⟨F, x0, ⟨n1, n2, n3, n4⟩, hfr⟩ := mFrexp x hx hf hx0
    have HFR := Lib.hid hfr
    have hE := obE_bd hf
    have hbp := bl_pos hM
    have hS : obS x = 0 ∨ obS x = 9223372036854775808 := by unfold obS; split <;> simp
    obtain ⟨S, hSS⟩ : ∃ S, S = obS x := ⟨_, rfl⟩
    rw [← hSS] at HFR hS
    obtain ⟨r, hr⟩ : ∃ r, r = S + 4602678819172646912 + F := ⟨_, rfl⟩
    rw [← hr] at HFR
    have hrl : r < 18446744073709551616 := by omega
    have hshl : (r : Int) * 2048 % 18446744073709551616 = ((F * 2048 : Nat) : Int) := by omega
    have hshw : IntKind.u64.wrap ((r : Int) * 2048) = ((F * 2048 : Nat) : Int) := by rw [IntKind.wrap_u64]; exact hshl
    have hor := or_top n1
    obtain ⟨G, hG⟩ : ∃ G, G = F * 2048 := ⟨_, rfl⟩
    rw [← hG] at hshl hshw hor
    obtain ⟨y, hy⟩ : ∃ y, y = 9223372036854775808 + G := ⟨_, rfl⟩
    rw [← hy] at hor
    have hyM : y = obM x * 2 ^ (64 - bl (obM x)) := by
      rw [show 64 - bl (obM x) = (53 - bl (obM x)) + 11 by omega, Nat.pow_add, ← Nat.mul_assoc, ← n2]; omega
    have hy1 : y < 18446744073709551616 := by omega
    have hy2 : 9223372036854775808 ≤ y := by omega
    have hMl : obM x < 18446744073709551616 := by have := obM_bd x; omega
    have htop : topN (obM x) = [y] := by rw [hyM]; exact topN_word hM hMl
    have HGD : Hid (∀ Q, 53 ≤ Q → Good [y] Q) := Lib.hid (fun Q hQ => by
      rw [← htop]; exact topN_good hM (by have := bl_obM x; omega) (by have := nw_bl hM; have := bl_obM x; omega))
    have HD : Hid (∀ (Q : Nat) (w' : World), FVal w' B b Q m (rA Q m (obN x) 0 y) 1 (obN x) (rQ Q m (obN x) 0 y) (x0 - 64 * (([y] : List Nat).length : Int) + rk Q y) →
        FVal w' B b Q m (sbA Q m (obN x) (obM x)) (fO (obM x)) (obN x) (rQ Q m (obN x) 0 (obM x)) (obE x + rk Q (obM x))) := Lib.hid (fun Q w' hw => by
      have := fval_trans hw (by omega) (show deq _ _ (obM x) (obE x) from ⟨0, 64 - bl (obM x), by rw [hyM]; simp, by simp; omega⟩)
      unfold sbA fO; rw [if_neg (by omega), if_neg (by omega)]; exact this)
    have hx0b : -1100 ≤ x0 ∧ x0 ≤ 1100 := by have := bl_obM x; omega
    obtain ⟨n, hn⟩ : ∃ n, n = obN x := ⟨_, rfl⟩
    rw [← hn] at HSB HD ⊢
    have HTL : Hid (∀ w5, FltR w5 b (pD p 53) m 0 1 n (.slice none 0 0) e → Below B w w5 → ∀ k, Calls Try.prog 77 #[.slice none 0 0, .int .u64 y] (w5.drewN k) fun e' w' => ∃ v, e' = .returned v ∧ IsS v ∧
        (FltR w' b (pD p 53) m 0 1 n (.slice none 0 0) e ∧ FltR ((w'.setCell ⟨b, 5, none⟩ v).setCell ⟨b, 6, none⟩ (.int .i32 x0)) b (pD p 53) m 0 1 n v x0 ∧ Own ((w'.setCell ⟨b, 5, none⟩ v).setCell ⟨b, 6, none⟩ (.int .i32 x0)) B 112 v (cellsW [y]) ∧ Below B w ((w'.setCell ⟨b, 5, none⟩ v).setCell ⟨b, 6, none⟩ (.int .i32 x0)))) := Lib.hid (fun w5 h5 hb5 k => by
      refine (setUint64_nil y (w5.drewN k) (by omega) hy1).mono ?_
      rintro _ w' ⟨v, rfl, ho, hb⟩
      have hBs : B ≤ w5.heap.size := by have := h5.lt; omega
      have hb' := undrewN hb
      have R5 := h5.below hb'
      have ho' : Own w' w5.heap.size 112 v (cellsW [y]) := ho
      exact ⟨v, rfl, ho.isS, R5, (R5.s5 v).s6 _, (R5.s5 v).own (R5.own (ho'.mono hBs) 5 v) 6 _, bset (bset (hb5.trans (hb'.mono hBs)) hB) hB⟩)
    have HRD : Hid (∀ (w' : World) (v : Value), FltR w' b (pD p 53) m 0 1 n v x0 → Own w' B 112 v (cellsW [y]) → Calls Try.prog 78 #[.pointer (some ⟨b, 0, none⟩), .int .u64 0] w' fun e' w'' => e' = .returned (.tuple #[]) ∧ FVal w'' B b (pD p 53) m (sbA (pD p 53) m n (obM x)) (fO (obM x)) n (rQ (pD p 53) m n 0 (obM x)) (obE x + rk (pD p 53) (obM x)) ∧ Below B w' w'') := Lib.hid (fun w' v hf ho => by
      have hg := good_word (p := 64) hy1 hy2 (Nat.le_refl _)
      have hr := round_any b B (pD p 53) m 0 0 x0 n v [y] w' hf hB ho hg.2.2.1 Nat.one_pos hg.2.2.2.1 (by simp) hq0 hqb hm (by decide) (.inl rfl) (by omega) (by omega)
      rw [show ((0 : Nat) : Int) = 0 from rfl] at hr
      refine hr.mono ?_
      rintro _ w'' ⟨rfl, hR⟩
      have hQ : 0 < rQ (pD p 53) m n 0 (wv [y]) := rQ_pos n 0 hq0 (by rw [wv_one]; omega)
      have F := hR.val hQ
      obtain ⟨_, _, _, -, -, -, -, hb8⟩ := hR
      rw [wv_one] at F
      exact ⟨rfl, HD.out _ _ F, hb8⟩)
    have HEX : Hid (53 ≤ pD p 53 → ∀ (w' : World) (v : Value), FltR w' b (pD p 53) m 0 1 n v x0 → Own w' B 112 v (cellsW [y]) → FVal w' B b (pD p 53) m (sbA (pD p 53) m n (obM x)) (fO (obM x)) n (rQ (pD p 53) m n 0 (obM x)) (obE x + rk (pD p 53) (obM x))) := Lib.hid (fun h64 w' v hf ho => by
      have F := fval_rnd hf ho (HGD.out _ h64) hq0
      rw [wv_one] at F
      exact HD.out _ _ F)
    clear hn hr hG hy hyM htop HD HGD hfr n2 n3 n4 hE hbp hSS hM hx0 hf
    by_cases hp0 : p = 0
    · have t0 : ((p : Int) == 0) = true := by rw [hp0]; rfl
      have HP : pD p 53 = 53 := by unfold pD; rw [if_pos hp0]
      have R4 := Lib.hid ((((h.s0 53).s2 0).s4 n).s3 1)
      have B4 := Lib.hid (bset (i := 3) (u := .int .u8 (1 : Int)) (bset (i := 4) (u := .bool n) (bset (i := 2) (u := .int .i8 0) (bset (i := 0) (u := .int .u32 (53 : Int)) (Below.refl B w) hB) hB) hB) hB)
      rw [HP] at HTL HEX ⊢
      clear h hp0 HRD HP
      go_enter Try.func40, Try.ntmps40
      go_wp2_with fail
      refine (HNA.out _).mono ?_
      rintro _ _ ⟨rfl, rfl⟩
      go_wp2_with fail
      refine (HSB.out _).mono ?_
      rintro _ _ ⟨rfl, rfl⟩
      go_wp2_with fail
      refine (HIN.out _).mono ?_
      rintro _ _ ⟨rfl, rfl⟩
      go_wp2_with fail
      refine (HFR.out _).mono ?_
      rintro _ _ ⟨rfl, rfl⟩
      go_wp2_with fail
      (refine wp_region_hoist 9 (by kernel_rfl) (by kernel_rfl) ⟨fun _ _ _ h => (by first | exact (hQp _ _ _ h).elim | cases h.2.1 | (obtain ⟨_, h3, _⟩ := h.2; cases h3)), fun _ _ h => (by first | exact (hQo _ _ h).elim | cases h.1 | (obtain ⟨_, h3, _⟩ := h; cases h3))⟩ ?_; simp only [List.take_succ_cons, List.take_zero, List.drop_succ_cons, List.drop_zero]; (repeat (go_big_quiet_step (fail))); refine wpQuiet_nil ?_; rintro _ ⟨nq, rfl⟩)
      go_wp2_with fail
      refine (HTL.out _ R4.out B4.out _).mono ?_
      rintro _ w5 ⟨v, rfl, hSv, R5, F5, O, BF⟩
      obtain ⟨d0, d1, d2, d3, d4, d5, d6⟩ := R5.cells
      obtain ⟨g0, g1, g2, g3, g4, g5, g6⟩ := R5.free
      have d0' : w5.cell? ⟨b, 0, none⟩ = some (.int .u32 53) := d0
      have HV := Lib.hid (HEX.out (Nat.le_refl _) _ _ F5 O)
      have HB := Lib.hid BF
      clear c0 c1 c2 c3 c4 c5 c6 f0 f1 f2 f3 f4 f5 f6 d0 R5 F5 O BF
      go_wp2
      go_ret
      exact ⟨rfl, HV.out, HB.out⟩
    · have t0 : ((p : Int) == 0) = false := by rw [beq_eq_false_iff_ne]; omega
      have HP : pD p 53 = p := by unfold pD; rw [if_neg hp0]
      have R4 := Lib.hid (((h.s2 0).s4 n).s3 1)
      have B4 := Lib.hid (bset (i := 3) (u := .int .u8 (1 : Int)) (bset (i := 4) (u := .bool n) (bset (i := 2) (u := .int .i8 0) (Below.refl B w) hB) hB) hB)
      rw [HP] at HTL HEX HRD ⊢
      clear h hp0 HP
      by_cases hp64 : p < 53
      · have t2 : decide (p < 53) = true := decide_eq_true hp64
        have t2' : decide ((p : Int) < 53) = true := decide_eq_true (by omega)
        clear hp64 HEX
        go_enter Try.func40, Try.ntmps40
        go_wp2_with fail
        refine (HNA.out _).mono ?_
        rintro _ _ ⟨rfl, rfl⟩
        go_wp2_with fail
        refine (HSB.out _).mono ?_
        rintro _ _ ⟨rfl, rfl⟩
        go_wp2_with fail
        refine (HIN.out _).mono ?_
        rintro _ _ ⟨rfl, rfl⟩
        go_wp2_with fail
        refine (HFR.out _).mono ?_
        rintro _ _ ⟨rfl, rfl⟩
        go_wp2_with fail
        (refine wp_region_hoist 9 (by kernel_rfl) (by kernel_rfl) ⟨fun _ _ _ h => (by first | exact (hQp _ _ _ h).elim | cases h.2.1 | (obtain ⟨_, h3, _⟩ := h.2; cases h3)), fun _ _ h => (by first | exact (hQo _ _ h).elim | cases h.1 | (obtain ⟨_, h3, _⟩ := h; cases h3))⟩ ?_; simp only [List.take_succ_cons, List.take_zero, List.drop_succ_cons, List.drop_zero]; (repeat (go_big_quiet_step (fail))); refine wpQuiet_nil ?_; rintro _ ⟨nq, rfl⟩)
        go_wp2_with fail
        refine (HTL.out _ R4.out B4.out _).mono ?_
        rintro _ w5 ⟨v, rfl, hSv, R5, F5, O, BF⟩
        obtain ⟨d0, d1, d2, d3, d4, d5, d6⟩ := R5.cells
        obtain ⟨g0, g1, g2, g3, g4, g5, g6⟩ := R5.free
        have HV := Lib.hid (HRD.out _ _ F5 O)
        have HB := Lib.hid BF
        clear c0 c1 c2 c3 c4 c5 c6 f0 f1 f2 f3 f4 f5 f6 R5 F5 O BF
        go_wp2_with fail
        refine HV.out.mono ?_
        rintro _ w8 ⟨rfl, hv8, hb8⟩
        have H8 := Lib.hid hv8
        have B8 := Lib.hid (HB.out.trans hb8)
        clear hv8 hb8
        go_wp2
        go_ret
        exact ⟨rfl, H8.out, B8.out⟩
      · have t2 : decide (p < 53) = false := decide_eq_false hp64
        have t2' : decide ((p : Int) < 53) = false := decide_eq_false (by omega)
        have H64 := Lib.hid (show 53 ≤ p by omega)
        clear hp64 HRD
        go_enter Try.func40, Try.ntmps40
        go_wp2_with fail
        refine (HNA.out _).mono ?_
        rintro _ _ ⟨rfl, rfl⟩
        go_wp2_with fail
        refine (HSB.out _).mono ?_
        rintro _ _ ⟨rfl, rfl⟩
        go_wp2_with fail
        refine (HIN.out _).mono ?_
        rintro _ _ ⟨rfl, rfl⟩
        go_wp2_with fail
        refine (HFR.out _).mono ?_
        rintro _ _ ⟨rfl, rfl⟩
        go_wp2_with fail
        (refine wp_region_hoist 9 (by kernel_rfl) (by kernel_rfl) ⟨fun _ _ _ h => (by first | exact (hQp _ _ _ h).elim | cases h.2.1 | (obtain ⟨_, h3, _⟩ := h.2; cases h3)), fun _ _ h => (by first | exact (hQo _ _ h).elim | cases h.1 | (obtain ⟨_, h3, _⟩ := h; cases h3))⟩ ?_; simp only [List.take_succ_cons, List.take_zero, List.drop_succ_cons, List.drop_zero]; (repeat (go_big_quiet_step (fail))); refine wpQuiet_nil ?_; rintro _ ⟨nq, rfl⟩)
        go_wp2_with fail
        refine (HTL.out _ R4.out B4.out _).mono ?_
        rintro _ w5 ⟨v, rfl, hSv, R5, F5, O, BF⟩
        obtain ⟨d0, d1, d2, d3, d4, d5, d6⟩ := R5.cells
        obtain ⟨g0, g1, g2, g3, g4, g5, g6⟩ := R5.free
        have HV := Lib.hid (HEX.out H64.out _ _ F5 O)
        have HB := Lib.hid BF
        clear c0 c1 c2 c3 c4 c5 c6 f0 f1 f2 f3 f4 f5 f6 R5 F5 O BF
        go_wp2
        go_ret
        exact ⟨rfl, HV.out, HB.out⟩
end Go.Proofs.Ytlgnaioodnhkjaa
