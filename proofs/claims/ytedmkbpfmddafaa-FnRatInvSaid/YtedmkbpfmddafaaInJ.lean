/-
The package's numbers: cmp. No condition.
-/
import Derived.Test.YtedmkbpfmddafaaInI
namespace Go.Proofs.Ytedmkbpfmddafaa
open Go.RowKit

theorem wdiv_step (n i : Nat) : n / 18446744073709551616 ^ i = 18446744073709551616 * (n / 18446744073709551616 ^ (i + 1)) + wdg n i := by
  unfold wdg
  rw [Nat.pow_succ, ← Nat.div_div_eq_div_mul]
  omega
theorem lt_of_nw {x y : Nat} (h : nw x < nw y) : x < y := by
  refine Nat.lt_of_not_le fun hc => ?_
  have := nw_mono hc
  omega
theorem lt_of_wdg {x y i : Nat} (he : x / 18446744073709551616 ^ (i + 1) = y / 18446744073709551616 ^ (i + 1)) (h : wdg x i < wdg y i) : x < y := by
  have h1 := wdiv_step x i
  have h2 := wdiv_step y i
  refine Nat.lt_of_not_le fun hc => ?_
  have := Nat.div_le_div_right (c := 18446744073709551616 ^ i) hc
  omega
set_option maxRecDepth 100000 in
set_option maxHeartbeats 800000 in
theorem cmp_any (a b : Value) (x y : Nat) (w : World) (ha : RW w a (wds x)) (hb : RW w b (wds y)) (hx : nw x ≤ 1000000000) (hy : nw y ≤ 1000000000) :
    Calls Try.prog 80 #[a, b] w fun e w' => e = .returned (.int .i64 (cmpN x y)) ∧ ∃ n, w' = w.drewN n := by
  have hSa := ha.isS
  have hSb := hb.isS
  have hLa := ha.len
  have hLb := hb.len
  rw [wds_length] at hLa hLb
  obtain ⟨la, hla⟩ : ∃ la, la = nw x := ⟨_, rfl⟩
  obtain ⟨lb, hlb⟩ : ∃ lb, lb = nw y := ⟨_, rfl⟩
  rw [← hla] at hLa hx
  rw [← hlb] at hLb hy
  have Hla := Lib.hid hla
  have Hlb := Lib.hid hlb
  have Ha := Lib.hid ha
  have Hb := Lib.hid hb
  clear hla hlb ha hb
  by_cases h1 : la < lb
  · have t1 : decide (la < lb) = true := by rw [decide_eq_true_iff]; exact h1
    have t2 : ((la : Int) == lb) = false := by rw [beq_eq_false_iff_ne]; omega
    go_enter Try.func80, Try.ntmps80
    go_wp2
    go_ret
    exact ⟨ret_int (cmpN_lt (lt_of_nw (by rw [← Hla.out, ← Hlb.out]; exact h1))).symm, 0, rfl⟩
  · have t1 : decide (la < lb) = false := by rw [decide_eq_false_iff_not]; exact h1
    by_cases h2 : lb < la
    · have t2 : decide (lb < la) = true := by rw [decide_eq_true_iff]; exact h2
      have t3 : ((la : Int) == lb) = false := by rw [beq_eq_false_iff_ne]; omega
      go_enter Try.func80, Try.ntmps80
      go_wp2
      go_ret
      exact ⟨ret_int (cmpN_gt (lt_of_nw (by rw [← Hla.out, ← Hlb.out]; exact h2))).symm, 0, rfl⟩
    · have t2 : decide (lb < la) = false := by rw [decide_eq_false_iff_not]; exact h2
      obtain rfl : la = lb := by omega
      clear h1 h2 t1 t2
      by_cases h0 : la = 0
      · have hxy : x = y := by
          have e1 := nw_eq_zero.1 (Hla.out.symm.trans h0)
          have e2 := nw_eq_zero.1 (Hlb.out.symm.trans h0)
          rw [e1, e2]
        have HXY := Lib.hid hxy
        subst h0
        clear hxy
        go_enter Try.func80, Try.ntmps80
        go_wp2
        go_ret
        exact ⟨ret_int (by rw [HXY.out, cmpN_eq]), 0, rfl⟩
      · have t0 : ((la : Int) == 0) = false := by rw [beq_eq_false_iff_ne]; omega
        have hpos : 1 ≤ la := by omega
        have H0 := Lib.hid h0
        clear h0
        go_enter Try.func80, Try.ntmps80
        go_wp2
        go_loopw [7] (fun i wr => ∃ k : Nat, k + 1 ≤ la ∧ i = .int .i64 (k : Int) ∧ x / 18446744073709551616 ^ (k + 1) = y / 18446744073709551616 ^ (k + 1) ∧ ∃ n, wr = w.drewN n) (fun i _ => (intOf i).toNat)
        case atStart =>
          refine ⟨la - 1, by omega, by go_num, ?_, 0, rfl⟩
          have e1 := lt_nw x
          have e2 := lt_nw y
          rw [← Hla.out] at e1
          rw [← Hlb.out] at e2
          rw [show la - 1 + 1 = la by omega, Nat.div_eq_of_lt e1, Nat.div_eq_of_lt e2]
        case round =>
          obtain ⟨k, hk, rfl, hv, nn, rfl⟩ := hrel
          have Hv := Lib.hid hv
          clear hv
          have ca := Ha.out.cell k (by rw [wds_length, ← Hla.out]; omega)
          have cb := Hb.out.cell k (by rw [wds_length, ← Hlb.out]; omega)
          rw [wds_getD] at ca cb
          obtain ⟨p, hp⟩ : ∃ p, p = wdg x k := ⟨_, rfl⟩
          obtain ⟨q, hq⟩ : ∃ q, q = wdg y k := ⟨_, rfl⟩
          rw [← hp] at ca
          rw [← hq] at cb
          have Hp := Lib.hid hp
          have Hq := Lib.hid hq
          clear hp hq
          have hkn : k < la := by omega
          by_cases h3 : p < q
          · have t3 : decide (p < q) = true := by rw [decide_eq_true_iff]; exact h3
            have t4 : ((p : Int) == q) = false := by rw [beq_eq_false_iff_ne]; omega
            have hk0 : decide (0 < k) = true ∨ decide (0 < k) = false := by cases decide (0 < k) <;> simp
            rcases hk0 with hk0 | hk0
            all_goals
              go_wp2
              go_quiet (fail)
              go_wp2
              go_quiet (fail)
              go_wp2
              go_ret
              exact ⟨ret_int (cmpN_lt (lt_of_wdg Hv.out (by rw [← Hp.out, ← Hq.out]; exact h3))).symm, by simp only [World.drewN_drewN]; exact ⟨_, rfl⟩⟩
          · have t3 : decide (p < q) = false := by rw [decide_eq_false_iff_not]; exact h3
            by_cases h4 : q < p
            · have t4 : ((p : Int) == q) = false := by rw [beq_eq_false_iff_ne]; omega
              have t5 : decide (q < p) = true := by rw [decide_eq_true_iff]; exact h4
              have hk0 : decide (0 < k) = true ∨ decide (0 < k) = false := by cases decide (0 < k) <;> simp
              rcases hk0 with hk0 | hk0
              all_goals
                go_wp2
                go_quiet (fail)
                go_wp2
                go_quiet (fail)
                go_wp2
                go_quiet (fail)
                go_wp2
                go_ret
                exact ⟨ret_int (cmpN_gt (lt_of_wdg Hv.out.symm (by rw [← Hp.out, ← Hq.out]; exact h4))).symm, by simp only [World.drewN_drewN]; exact ⟨_, rfl⟩⟩
            · have t4 : ((p : Int) == q) = true := by rw [beq_iff_eq]; omega
              have t5 : decide (q < p) = false := by rw [decide_eq_false_iff_not]; exact h4
              have hpq : p = q := by omega
              have e1 := wdiv_step x k
              have e2 := wdiv_step y k
              rw [← Hp.out] at e1
              rw [← Hq.out] at e2
              have e3 : x / 18446744073709551616 ^ k = y / 18446744073709551616 ^ k := by rw [e1, e2, Hv.out, hpq]
              have E3 := Lib.hid e3
              have HPQ := Lib.hid hpq
              clear e1 e2 e3 hpq h3 h4
              by_cases hk0 : 0 < k
              · have t6 : decide (0 < k) = true := decide_eq_true hk0
                go_wp2
                go_quiet (fail)
                go_wp2
                refine ⟨⟨k - 1, by omega, by go_num, ?_, by first | exact ⟨_, rfl⟩ | (simp only [World.drewN_drewN]; exact ⟨_, rfl⟩)⟩, by simp [intOf]; omega⟩
                rw [show k - 1 + 1 = k by omega]; exact E3.out
              · have t6 : decide (0 < k) = false := decide_eq_false hk0
                obtain rfl : k = 0 := by omega
                rw [Nat.add_zero] at ca cb
                go_wp2
                go_quiet (fail)
                go_wp2
                go_quiet (fail)
                go_wp2
                go_quiet (fail)
                go_wp2
                go_ret
                refine ⟨ret_int ?_, by simp only [World.drewN_drewN]; exact ⟨_, rfl⟩⟩
                have := E3.out
                rw [Nat.pow_zero, Nat.div_one, Nat.div_one] at this
                rw [this, cmpN_eq]
end Go.Proofs.Ytedmkbpfmddafaa
