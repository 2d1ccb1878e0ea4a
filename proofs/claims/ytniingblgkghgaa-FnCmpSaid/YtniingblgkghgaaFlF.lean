/-
Floats: ucmp, Cmp. No condition.
-/
import Derived.Test.YtniingblgkghgaaFlE
namespace Go.Proofs.Ytniingblgkghgaa
open Go.RowKit

theorem ucmpV_lt {e1 e2 : Int} (xs ys : List Nat) (h : e1 < e2) : ucmpV e1 e2 xs ys = -1 := if_pos h
theorem ucmpV_gt {e1 e2 : Int} (xs ys : List Nat) (h : e2 < e1) : ucmpV e1 e2 xs ys = 1 := by unfold ucmpV; rw [if_neg (by omega), if_pos h]
theorem ucmpV_eq (e : Int) (xs ys : List Nat) : ucmpV e e xs ys = cmpN (topV xs ys.length) (topV ys xs.length) := by unfold ucmpV; rw [if_neg (by omega), if_neg (by omega)]
theorem topW_ge {xs : List Nat} {k : Nat} (h : xs.length ≤ k) : topW xs k = 0 := by unfold topW; rw [if_neg (by omega)]
theorem topW_in {xs : List Nat} {k j : Nat} (h : xs.length - k = j + 1) : topW xs k = xs.getD j 0 := by unfold topW; rw [if_pos (by omega), show xs.length - 1 - k = j by omega]
set_option maxRecDepth 100000 in
set_option maxHeartbeats 1600000 in
theorem ucmp_any (b1 b2 p1 m1 f1 p2 m2 f2 : Nat) (a1 e1 a2 e2 : Int) (n1 n2 : Bool) (v1 v2 : Value) (xs ys : List Nat) (w : World) (h1 : FltR w b1 p1 m1 a1 f1 n1 v1 e1) (h2 : FltR w b2 p2 m2 a2 f2 n2 v2 e2) (r1 : RW w v1 xs) (r2 : RW w v2 ys) (hl1 : xs.length ≤ 1000000000) (hl2 : ys.length ≤ 1000000000) :
    Calls Try.prog 60 #[.pointer (some ⟨b1, 0, none⟩), .pointer (some ⟨b2, 0, none⟩)] w fun e' w' => e' = .returned (.int .i64 (ucmpV e1 e2 xs ys)) ∧ ∃ n, w' = w.drewN n := by
  obtain ⟨-, -, -, -, -, c5, c6⟩ := h1.cells
  obtain ⟨-, -, -, -, -, d5, d6⟩ := h2.cells
  have hS1 := r1.isS
  have hS2 := r2.isS
  have hL1 := r1.len
  have hL2 := r2.len
  have hx := r1.lt
  have hy := r2.lt
  obtain ⟨lx, hlx⟩ : ∃ lx, lx = xs.length := ⟨_, rfl⟩
  obtain ⟨ly, hly⟩ : ∃ ly, ly = ys.length := ⟨_, rfl⟩
  rw [← hlx] at hL1 hl1
  rw [← hly] at hL2 hl2
  have HLX := Lib.hid hlx
  have HLY := Lib.hid hly
  have HX := Lib.hid hx
  have HY := Lib.hid hy
  have HR1 := Lib.hid r1
  have HR2 := Lib.hid r2
  clear h1 h2 r1 r2 hlx hly hx hy
  by_cases h1 : e1 < e2
  · have t1 : decide (e1 < e2) = true := decide_eq_true h1
    have HE := Lib.hid h1
    clear h1
    go_enter Try.func60, Try.ntmps60
    go_wp2
    go_quiet (fail)
    go_wp2
    go_ret
    exact ⟨ret_int (ucmpV_lt _ _ HE.out).symm, _, rfl⟩
  · have t1 : decide (e1 < e2) = false := decide_eq_false h1
    by_cases h2 : e2 < e1
    · have t2 : decide (e2 < e1) = true := decide_eq_true h2
      have HE := Lib.hid h2
      clear h1 h2
      go_enter Try.func60, Try.ntmps60
      go_wp2
      go_quiet (fail)
      go_wp2
      go_quiet (fail)
      go_wp2
      go_ret
      exact ⟨ret_int (ucmpV_gt _ _ HE.out).symm, by simp only [World.drewN_drewN]; exact ⟨_, rfl⟩⟩
    · obtain rfl : e1 = e2 := by omega
      have t2 : decide (e1 < e1) = false := decide_eq_false (by omega)
      clear h1 h2
      go_enter Try.func60, Try.ntmps60
      go_wp2
      go_quiet (fail)
      go_wp2
      go_quiet (fail)
      go_wp2
      go_loopw [5, 6] (fun i j wr => ∃ k : Nat, i = .int .i64 ((lx - k : Nat) : Int) ∧ j = .int .i64 ((ly - k : Nat) : Int) ∧ Alike xs ys k ∧ ∃ n, wr = w.drewN n) (fun i j _ => (intOf i).toNat + (intOf j).toNat)
      case atStart => exact ⟨0, by simp, by simp, Alike.start HX.out HY.out, by first | exact ⟨_, rfl⟩ | (simp only [World.drewN_drewN]; exact ⟨_, rfl⟩)⟩
      case round =>
        obtain ⟨k, rfl, rfl, hA, nn, rfl⟩ := hrel
        have HA := Lib.hid hA
        clear hA
        obtain ⟨i, hi⟩ : ∃ i, i = lx - k := ⟨_, rfl⟩
        obtain ⟨j, hj⟩ : ∃ j, j = ly - k := ⟨_, rfl⟩
        rw [← hi, ← hj]
        have HI := Lib.hid hi
        have HJ := Lib.hid hj
        have hile : i ≤ lx := by omega
        have hjle : j ≤ ly := by omega
        clear hi hj
        -- THE ROUND
        have tx : ∀ i', i = i' + 1 → topW xs k = xs.getD i' 0 := fun i' h => topW_in (by rw [← HLX.out, ← HI.out]; exact h)
        have ty : ∀ j', j = j' + 1 → topW ys k = ys.getD j' 0 := fun j' h => topW_in (by rw [← HLY.out, ← HJ.out]; exact h)
        have tx0 : i = 0 → topW xs k = 0 := fun h => topW_ge (by rw [← HLX.out]; have := HI.out; omega)
        have ty0 : j = 0 → topW ys k = 0 := fun h => topW_ge (by rw [← HLY.out]; have := HJ.out; omega)
        have TX := Lib.hid tx
        have TY := Lib.hid ty
        have TX0 := Lib.hid tx0
        have TY0 := Lib.hid ty0
        have lt_of : 0 < i ∨ 0 < j → topW xs k < topW ys k → ucmpV e1 e1 xs ys = -1 := fun h hl => by
          rw [ucmpV_eq]; exact cmpN_lt (HA.out.less HX.out HY.out (by rw [← HLX.out, ← HLY.out]; have := HI.out; have := HJ.out; omega) hl)
        have gt_of : 0 < i ∨ 0 < j → topW ys k < topW xs k → ucmpV e1 e1 xs ys = 1 := fun h hl => by
          rw [ucmpV_eq]; exact cmpN_gt (HA.out.symm.less HY.out HX.out (by rw [← HLX.out, ← HLY.out]; have := HI.out; have := HJ.out; omega) hl)
        have nx : 0 < i ∨ 0 < j → topW xs k = topW ys k → Alike xs ys (k + 1) := fun h he => HA.out.next HX.out HY.out (by rw [← HLX.out, ← HLY.out]; have := HI.out; have := HJ.out; omega) he
        have LT := Lib.hid lt_of
        have GT := Lib.hid gt_of
        have NX := Lib.hid nx
        clear tx ty tx0 ty0 lt_of gt_of nx
        by_cases hi0 : i = 0
        · subst hi0
          by_cases hj0 : j = 0
          · subst hj0
            go_wp2
            go_ret
            refine ⟨ret_int ?_, _, rfl⟩
            rw [ucmpV_eq, HA.out.full HX.out HY.out (by rw [← HLX.out]; have := HI.out; omega) (by rw [← HLY.out]; have := HJ.out; omega), cmpN_eq]
          · obtain ⟨j', rfl⟩ : ∃ j', j = j' + 1 := ⟨j - 1, by omega⟩
            have cy := HR2.out.cell j' (by rw [← HLY.out]; omega)
            obtain ⟨q, hq⟩ : ∃ q, q = ys.getD j' 0 := ⟨_, rfl⟩
            rw [← hq] at cy
            have Hq := Lib.hid (hq.trans (TY.out _ rfl).symm)
            have ej : (((j' + 1 : Nat)) : Int) - 1 = (j' : Int) := by omega
            clear hq hj0
            have hjl : j' < ly := by omega
            have p0 := TX0.out rfl
            have HP0 := Lib.hid p0
            clear p0
            by_cases h3 : 0 < q
            · have t3 : decide (0 < q) = true := decide_eq_true h3
              go_wp2
              go_ret
              exact ⟨ret_int (LT.out (.inr (by omega)) (by rw [HP0.out, ← Hq.out]; exact h3)).symm, _, rfl⟩
            · have t3 : decide (0 < q) = false := decide_eq_false h3
              have hq0 : q = 0 := by omega
              have HQ0 := Lib.hid hq0
              clear hq0 h3
              go_wp2
              refine ⟨⟨k + 1, by rw [show lx - (k + 1) = 0 by have := HI.out; omega], by rw [show ly - (k + 1) = j' by have := HJ.out; omega], NX.out (.inr (by omega)) (by rw [HP0.out, ← Hq.out, HQ0.out]), _, rfl⟩, by simp [intOf] <;> omega⟩
        · obtain ⟨i', rfl⟩ : ∃ i', i = i' + 1 := ⟨i - 1, by omega⟩
          have cx := HR1.out.cell i' (by rw [← HLX.out]; omega)
          obtain ⟨p, hp⟩ : ∃ p, p = xs.getD i' 0 := ⟨_, rfl⟩
          rw [← hp] at cx
          have Hp := Lib.hid (hp.trans (TX.out _ rfl).symm)
          have ei : (((i' + 1 : Nat)) : Int) - 1 = (i' : Int) := by omega
          clear hp hi0
          have hil : i' < lx := by omega
          by_cases hj0 : j = 0
          · subst hj0
            have q0 := TY0.out rfl
            have HQ0 := Lib.hid q0
            clear q0
            by_cases h3 : 0 < p
            · have t3 : decide (0 < p) = true := decide_eq_true h3
              go_wp2
              go_ret
              exact ⟨ret_int (GT.out (.inl (by omega)) (by rw [HQ0.out, ← Hp.out]; exact h3)).symm, _, rfl⟩
            · have t3 : decide (0 < p) = false := decide_eq_false h3
              have hp0 : p = 0 := by omega
              have HP0 := Lib.hid hp0
              clear hp0 h3
              go_wp2
              refine ⟨⟨k + 1, by rw [show lx - (k + 1) = i' by have := HI.out; omega], by rw [show ly - (k + 1) = 0 by have := HJ.out; omega], NX.out (.inl (by omega)) (by rw [HQ0.out, ← Hp.out, HP0.out]), _, rfl⟩, by simp [intOf] <;> omega⟩
          · obtain ⟨j', rfl⟩ : ∃ j', j = j' + 1 := ⟨j - 1, by omega⟩
            have cy := HR2.out.cell j' (by rw [← HLY.out]; omega)
            obtain ⟨q, hq⟩ : ∃ q, q = ys.getD j' 0 := ⟨_, rfl⟩
            rw [← hq] at cy
            have Hq := Lib.hid (hq.trans (TY.out _ rfl).symm)
            have ej : (((j' + 1 : Nat)) : Int) - 1 = (j' : Int) := by omega
            clear hq hj0
            have hjl : j' < ly := by omega
            by_cases h3 : p < q
            · have t3 : decide (p < q) = true := decide_eq_true h3
              go_wp2
              go_ret
              exact ⟨ret_int (LT.out (.inl (by omega)) (by rw [← Hp.out, ← Hq.out]; exact h3)).symm, _, rfl⟩
            · have t3 : decide (p < q) = false := decide_eq_false h3
              by_cases h4 : q < p
              · have t4 : decide (q < p) = true := decide_eq_true h4
                go_wp2
                go_ret
                exact ⟨ret_int (GT.out (.inl (by omega)) (by rw [← Hp.out, ← Hq.out]; exact h4)).symm, _, rfl⟩
              · have t4 : decide (q < p) = false := decide_eq_false h4
                have hpq : p = q := by omega
                have HPQ := Lib.hid hpq
                clear hpq h3 h4
                go_wp2
                refine ⟨⟨k + 1, by rw [show lx - (k + 1) = i' by have := HI.out; omega], by rw [show ly - (k + 1) = j' by have := HJ.out; omega], NX.out (.inl (by omega)) (by rw [← Hp.out, ← Hq.out, HPQ.out]), _, rfl⟩, by simp [intOf] <;> omega⟩
end Go.Proofs.Ytniingblgkghgaa
