/-
Texts of this proof, joined: FlQ. No condition.
-/
import Derived.Test.YtdepidpgbgfjlaaGreatDoorK02
import Derived.Test.YtdepidpgbgfjlaaGreatDoorK03
import Derived.Test.YtdepidpgbgfjlaaGreatDoorK32
import Derived.Deep.QuietTactic
import Derived.BigQuiet
namespace Go.Proofs.YtdepidpgbgfjlaaGreatDoor
open Go.RowKit

def RealIs (P E : Nat) (p m f : Int) (ws : List Nat) (e : Int) : Prop :=
  ∃ p' m' f' : Nat, p = p' ∧ m = m' ∧ f = f' ∧ RealOk P E p' m' f' ws e
set_option maxRecDepth 100000 in
set_option maxHeartbeats 3200000 in
theorem real_any (P E p : Nat) (m f e : Int) (neg : Bool) (v : Value) (ws : List Nat) (w : World) (hv : RW w v ws) (hP : P ≤ 64000000) (hE : E ≤ 1000000000) :
    Calls Tryz.prog 31 #[.agg #[.int .u64 p, .int .i64 m, .int .i64 f, .bool neg, v, .int .i64 e], .int .u64 P, .int .i64 E] w fun e' w' => ∃ ok, e' = .returned (.bool ok) ∧ (ok = true → RealIs P E p m f ws e) ∧ Below w.heap.size w w' := by
  have hS := hv.isS
  have hL := hv.len
  have hab := (Below.refl w.heap.size w).alloc (Nat.le_refl _) (.cells #[.int .u64 p, .int .i64 m, .int .i64 f, .bool neg, v, .int .i64 e] 39)
  obtain ⟨L, hLL⟩ : ∃ L, L = ws.length := ⟨_, rfl⟩
  rw [← hLL] at hL
  have HL := Lib.hid hLL
  have HV := Lib.hid hv
  clear hv hLL
  by_cases c1 : p < 1
  · have t1 : decide ((p : Int) < 1) = true := decide_eq_true (by omega)
    clear c1
    go_enter Tryz.func31, Tryz.ntmps31
    go_wp2
    go_ret
    exact ⟨_, rfl, by simp, hab⟩
  have t1 : decide ((p : Int) < 1) = false := decide_eq_false (by omega)
  by_cases c2 : P < p
  · have t2 : decide (P < p) = true := decide_eq_true c2
    clear c1 c2
    go_enter Tryz.func31, Tryz.ntmps31
    go_wp2
    go_ret
    exact ⟨_, rfl, by simp, hab⟩
  have t2 : decide (P < p) = false := decide_eq_false c2
  by_cases c3 : m < 0
  · have t3 : decide (m < 0) = true := decide_eq_true c3
    clear c1 c2 c3
    go_enter Tryz.func31, Tryz.ntmps31
    go_wp2
    go_ret
    exact ⟨_, rfl, by simp, hab⟩
  have t3 : decide (m < 0) = false := decide_eq_false c3
  by_cases c4 : 5 < m
  · have t4 : decide (5 < m) = true := decide_eq_true c4
    clear c1 c2 c3 c4
    go_enter Tryz.func31, Tryz.ntmps31
    go_wp2
    go_ret
    exact ⟨_, rfl, by simp, hab⟩
  have t4 : decide (5 < m) = false := decide_eq_false c4
  obtain ⟨m', rfl⟩ := Int.eq_ofNat_of_zero_le (show 0 ≤ m by omega)
  by_cases f0 : f = 0
  · subst f0
    have Q := Lib.hid (⟨p, m', 0, rfl, rfl, rfl, by omega, by omega, by omega, .inl rfl⟩ : RealIs P E p m' 0 ws e)
    clear c1 c2 c3 c4
    go_enter Tryz.func31, Tryz.ntmps31
    go_wp2
    go_ret
    exact ⟨_, rfl, fun _ => Q.out, hab⟩
  by_cases f2 : f = 2
  · subst f2
    have Q := Lib.hid (⟨p, m', 2, rfl, rfl, rfl, by omega, by omega, by omega, .inr (.inl rfl)⟩ : RealIs P E p m' 2 ws e)
    clear c1 c2 c3 c4 f0
    go_enter Tryz.func31, Tryz.ntmps31
    go_wp2
    go_ret
    exact ⟨_, rfl, fun _ => Q.out, hab⟩
  by_cases f1 : f = 1
  · subst f1
    clear f0 f2
    by_cases c5 : (p + 63) / 64 < L
    · have t5 : decide (((p : Int) + 63) / 64 < (L : Int)) = true := decide_eq_true (by omega)
      clear c1 c3 c4 c5
      go_enter Tryz.func31, Tryz.ntmps31
      go_wp2
      go_ret
      exact ⟨_, rfl, by simp, hab⟩
    have t5 : decide (((p : Int) + 63) / 64 < (L : Int)) = false := decide_eq_false (by omega)
    have hLs : ws.length ≤ 1000000 := by rw [← HL.out]; omega
    have HLs := Lib.hid hLs
    obtain ⟨W, hW⟩ : ∃ W, W = w.alloc (.cells #[.int .u64 p, .int .i64 m', .int .i64 1, .bool neg, v, .int .i64 e] 39) := ⟨_, rfl⟩
    have hrow : W.heap[w.heap.size]? = some (.cells #[.int .u64 p, .int .i64 m', .int .i64 1, .bool neg, v, .int .i64 e] 39 (0, 0)) := by rw [hW]; exact box_row (Below.refl _ _)
    rw [← hW] at hab
    have hWs := hab.size
    have k0 := (row_at (i := 0) hrow rfl).1
    have k1 := (row_at (i := 1) hrow rfl).1
    have k2 := (row_at (i := 2) hrow rfl).1
    have k4 := (row_at (i := 4) hrow rfl).1
    have HR := Lib.hid hrow
    have HB := Lib.hid hab
    have HVW := Lib.hid (HV.out.below hab)
    have C1 := Lib.hid c1
    have C2 := Lib.hid c2
    have C4 := Lib.hid c4
    clear hrow hab hLs c1 c3 c4 c5
    go_enter Tryz.func31, Tryz.ntmps31
    go_upto_region 1 with fail
    rw [← hW]
    clear hW
    go_wp2_with fail
    refine (spOf v ws W HVW.out (by have := HLs.out; omega)).mono ?_
    rintro _ w1 ⟨d, rfl, hd, hb1⟩
    have hSd := hd.isS
    have hLd := hd.len
    obtain ⟨n, hn⟩ : ∃ n, n = nl (wv ws) := ⟨_, rfl⟩
    rw [← hn] at hLd
    have q0 := (row_at (i := 0) (keep_row hb1 HR.out) rfl).1
    have q5 := (row_at (i := 5) (keep_row hb1 HR.out) rfl).1
    have Hn := Lib.hid hn
    have HN := Lib.hid hd
    have HB1 := Lib.hid (bthen HB.out hb1)
    have hnl : n ≤ 1000000000 := by
      have h1 := HLs.out
      have h2 := nl_wv HV.out.lt
      omega
    clear hn hd hb1 k0 k1 k2 k4
    by_cases n0 : n = 0
    · subst n0
      go_wp2_with fail
      go_quiet (fail)
      go_wp2
      go_ret
      exact ⟨_, rfl, by simp, undrewN' HB1.out⟩
    · have t6 : decide (0 < n) = true := decide_eq_true (by omega)
      obtain ⟨l, hl⟩ : ∃ l, l = bl (wv ws) := ⟨_, rfl⟩
      have Hl := Lib.hid hl
      have H0 : Hid (0 < wv ws) := Lib.hid (by
        rcases Nat.eq_zero_or_pos (wv ws) with h | h
        · rw [Hn.out, h] at n0; exact absurd rfl n0
        · exact h)
      clear hl n0
      have HLen : Hid (∀ k, Calls Tryz.prog 19 #[d] (w1.drewN k) fun e' w' => e' = .returned (.int .i64 (l : Nat)) ∧ w' = w1.drewN k) := Lib.hid (fun k => by
        rw [Hl.out]
        exact (spLen _ (wv ws) _ (HN.out.below (undrewN' (Below.refl _ _))) (by rw [← Hn.out]; exact hnl)).mono (fun _ _ h => ⟨h.1, h.2.symm⟩))
      by_cases d1 : l ≤ p
      · have t7 : decide (l ≤ p) = true := decide_eq_true d1
        by_cases d2 : -(E : Int) ≤ e
        · have t8 : decide (-(E : Int) ≤ e) = true := decide_eq_true d2
          have Q : Hid (e ≤ E → RealIs P E p m' 1 ws e) := Lib.hid (fun h => ⟨p, m', 1, rfl, rfl, rfl, by have := C1.out; omega, by have := C2.out; omega, by have := C4.out; omega, .inr (.inr ⟨rfl, H0.out, by rw [← Hl.out]; exact d1, HLs.out, d2, h⟩)⟩)
          clear d1 d2
          go_wp2_with fail
          go_quiet ((go_at_call 19; exact Calls.quiet_of_same (HLen.out _)))
          go_wp2
          go_ret
          exact ⟨_, rfl, fun h => Q.out (of_decide_eq_true h), undrewN' HB1.out⟩
        · have t8 : decide (-(E : Int) ≤ e) = false := decide_eq_false d2
          clear d1 d2
          go_wp2_with fail
          go_quiet ((go_at_call 19; exact Calls.quiet_of_same (HLen.out _)))
          go_wp2
          go_ret
          exact ⟨_, rfl, by simp, undrewN' HB1.out⟩
      · have t7 : decide (l ≤ p) = false := decide_eq_false d1
        clear d1
        go_wp2_with fail
        go_quiet ((go_at_call 19; exact Calls.quiet_of_same (HLen.out _)))
        go_wp2
        go_ret
        exact ⟨_, rfl, by simp, undrewN' HB1.out⟩
  · have t5 : (f == 0) = false := by rw [beq_eq_false_iff_ne]; exact f0
    have t6 : (f == 1) = false := by rw [beq_eq_false_iff_ne]; exact f1
    have t7 : (f == 2) = false := by rw [beq_eq_false_iff_ne]; exact f2
    clear f0 f1 f2 c1 c3 c4
    go_enter Tryz.func31, Tryz.ntmps31
    go_wp2
    go_ret
    exact ⟨_, rfl, by simp, hab⟩
end Go.Proofs.YtdepidpgbgfjlaaGreatDoor
