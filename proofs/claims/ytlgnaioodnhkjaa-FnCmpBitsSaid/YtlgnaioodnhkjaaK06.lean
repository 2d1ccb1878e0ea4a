/-
Texts of this proof, joined: FlF FlG. No condition.
-/
import Derived.Test.YtlgnaioodnhkjaaK05
/-
Floats: ucmp, Cmp. No condition.
-/
namespace Go.Proofs.Ytlgnaioodnhkjaa
open Go.RowKit

theorem ucmpV_lt {e1 e2 : Int} (xs ys : List Nat) (h : e1 < e2) : ucmpV e1 e2 xs ys = -1 := if_pos h
theorem ucmpV_gt {e1 e2 : Int} (xs ys : List Nat) (h : e2 < e1) : ucmpV e1 e2 xs ys = 1 := by unfold ucmpV; rw [if_neg (by omega), if_pos h]
theorem ucmpV_eq (e : Int) (xs ys : List Nat) : ucmpV e e xs ys = cmpN (topV xs ys.length) (topV ys xs.length) := by unfold ucmpV; rw [if_neg (by omega), if_neg (by omega)]
theorem topW_ge {xs : List Nat} {k : Nat} (h : xs.length ≤ k) : topW xs k = 0 := by unfold topW; rw [if_neg (by omega)]
theorem topW_in {xs : List Nat} {k j : Nat} (h : xs.length - k = j + 1) : topW xs k = xs.getD j 0 := by unfold topW; rw [if_pos (by omega), show xs.length - 1 - k = j by omega]
set_option maxRecDepth 100000 in
set_option maxHeartbeats 1600000 in
theorem ucmp_any (b1 b2 p1 m1 f1 p2 m2 f2 : Nat) (a1 e1 a2 e2 : Int) (n1 n2 : Bool) (v1 v2 : Value) (xs ys : List Nat) (w : World) (h1 : FltR w b1 p1 m1 a1 f1 n1 v1 e1) (h2 : FltR w b2 p2 m2 a2 f2 n2 v2 e2) (r1 : RW w v1 xs) (r2 : RW w v2 ys) (hl1 : xs.length ≤ 1000000000) (hl2 : ys.length ≤ 1000000000) :
    Calls Try.prog 80 #[.pointer (some ⟨b1, 0, none⟩), .pointer (some ⟨b2, 0, none⟩)] w fun e' w' => e' = .returned (.int .i64 (ucmpV e1 e2 xs ys)) ∧ ∃ n, w' = w.drewN n := by
  obtain ⟨-, -, -, -, -, c5, c6⟩ := h1.cells
  obtain ⟨-, -, -, -, -, d5, d6⟩ := h2.cells
  have hS1 := r1.isS
  have hS2 := r2.isS
  have hL1 := r1.len
  have hL2 := r2.len
  have hx := r1.lt
  have hy := r2.lt
  obtain ⟨lx, hlx⟩ : ∃ lx, lx = xs.length := ⟨_, rfl⟩
  obtain ⟨ly, hly⟩ : ∃ ly, ly = ys.length := ⟨_, rfl⟩
  rw [← hlx] at hL1 hl1
  rw [← hly] at hL2 hl2
  have HLX := Lib.hid hlx
  have HLY := Lib.hid hly
  have HX := Lib.hid hx
  have HY := Lib.hid hy
  have HR1 := Lib.hid r1
  have HR2 := Lib.hid r2
  clear h1 h2 r1 r2 hlx hly hx hy
  by_cases h1 : e1 < e2
  · have t1 : decide (e1 < e2) = true := decide_eq_true h1
    have HE := Lib.hid h1
    clear h1
    go_enter Try.func80, Try.ntmps80
    go_wp2
    go_quiet (fail)
    go_wp2
    go_ret
    exact ⟨ret_int (ucmpV_lt _ _ HE.out).symm, _, rfl⟩
  · have t1 : decide (e1 < e2) = false := decide_eq_false h1
    by_cases h2 : e2 < e1
    · have t2 : decide (e2 < e1) = true := decide_eq_true h2
      have HE := Lib.hid h2
      clear h1 h2
      go_enter Try.func80, Try.ntmps80
      go_wp2
      go_quiet (fail)
      go_wp2
      go_quiet (fail)
      go_wp2
      go_ret
      exact ⟨ret_int (ucmpV_gt _ _ HE.out).symm, by simp only [World.drewN_drewN]; exact ⟨_, rfl⟩⟩
    · obtain rfl : e1 = e2 := by omega
      have t2 : decide (e1 < e1) = false := decide_eq_false (by omega)
      clear h1 h2
      go_enter Try.func80, Try.ntmps80
      go_wp2
      go_quiet (fail)
      go_wp2
      go_quiet (fail)
      go_wp2
      go_loopw [5, 6] (fun i j wr => ∃ k : Nat, i = .int .i64 ((lx - k : Nat) : Int) ∧ j = .int .i64 ((ly - k : Nat) : Int) ∧ Alike xs ys k ∧ ∃ n, wr = w.drewN n) (fun i j _ => (intOf i).toNat + (intOf j).toNat)
      case atStart => exact ⟨0, by simp, by simp, Alike.start HX.out HY.out, by first | exact ⟨_, rfl⟩ | (simp only [World.drewN_drewN]; exact ⟨_, rfl⟩)⟩
      case round =>
        obtain ⟨k, rfl, rfl, hA, nn, rfl⟩ := hrel
        have HA := Lib.hid hA
        clear hA
        obtain ⟨i, hi⟩ : ∃ i, i = lx - k := ⟨_, rfl⟩
        obtain ⟨j, hj⟩ : ∃ j, j = ly - k := ⟨_, rfl⟩
        rw [← hi, ← hj]
        have HI := Lib.hid hi
        have HJ := Lib.hid hj
        have hile : i ≤ lx := by omega
        have hjle : j ≤ ly := by omega
        clear hi hj
        -- THE ROUND
        have tx : ∀ i', i = i' + 1 → topW xs k = xs.getD i' 0 := fun i' h => topW_in (by rw [← HLX.out, ← HI.out]; exact h)
        have ty : ∀ j', j = j' + 1 → topW ys k = ys.getD j' 0 := fun j' h => topW_in (by rw [← HLY.out, ← HJ.out]; exact h)
        have tx0 : i = 0 → topW xs k = 0 := fun h => topW_ge (by rw [← HLX.out]; have := HI.out; omega)
        have ty0 : j = 0 → topW ys k = 0 := fun h => topW_ge (by rw [← HLY.out]; have := HJ.out; omega)
        have TX := Lib.hid tx
        have TY := Lib.hid ty
        have TX0 := Lib.hid tx0
        have TY0 := Lib.hid ty0
        have lt_of : 0 < i ∨ 0 < j → topW xs k < topW ys k → ucmpV e1 e1 xs ys = -1 := fun h hl => by
          rw [ucmpV_eq]; exact cmpN_lt (HA.out.less HX.out HY.out (by rw [← HLX.out, ← HLY.out]; have := HI.out; have := HJ.out; omega) hl)
        have gt_of : 0 < i ∨ 0 < j → topW ys k < topW xs k → ucmpV e1 e1 xs ys = 1 := fun h hl => by
          rw [ucmpV_eq]; exact cmpN_gt (HA.out.symm.less HY.out HX.out (by rw [← HLX.out, ← HLY.out]; have := HI.out; have := HJ.out; omega) hl)
        have nx : 0 < i ∨ 0 < j → topW xs k = topW ys k → Alike xs ys (k + 1) := fun h he => HA.out.next HX.out HY.out (by rw [← HLX.out, ← HLY.out]; have := HI.out; have := HJ.out; omega) he
        have LT := Lib.hid lt_of
        have GT := Lib.hid gt_of
        have NX := Lib.hid nx
        clear tx ty tx0 ty0 lt_of gt_of nx
        by_cases hi0 : i = 0
        · subst hi0
          by_cases hj0 : j = 0
          · subst hj0
            go_wp2
            go_ret
            refine ⟨ret_int ?_, _, rfl⟩
            rw [ucmpV_eq, HA.out.full HX.out HY.out (by rw [← HLX.out]; have := HI.out; omega) (by rw [← HLY.out]; have := HJ.out; omega), cmpN_eq]
          · obtain ⟨j', rfl⟩ : ∃ j', j = j' + 1 := ⟨j - 1, by omega⟩
            have cy := HR2.out.cell j' (by rw [← HLY.out]; omega)
            obtain ⟨q, hq⟩ : ∃ q, q = ys.getD j' 0 := ⟨_, rfl⟩
            rw [← hq] at cy
            have Hq := Lib.hid (hq.trans (TY.out _ rfl).symm)
            have ej : (((j' + 1 : Nat)) : Int) - 1 = (j' : Int) := by omega
            clear hq hj0
            have hjl : j' < ly := by omega
            have p0 := TX0.out rfl
            have HP0 := Lib.hid p0
            clear p0
            by_cases h3 : 0 < q
            · have t3 : decide (0 < q) = true := decide_eq_true h3
              go_wp2
              go_ret
              exact ⟨ret_int (LT.out (.inr (by omega)) (by rw [HP0.out, ← Hq.out]; exact h3)).symm, _, rfl⟩
            · have t3 : decide (0 < q) = false := decide_eq_false h3
              have hq0 : q = 0 := by omega
              have HQ0 := Lib.hid hq0
              clear hq0 h3
              go_wp2
              refine ⟨⟨k + 1, by rw [show lx - (k + 1) = 0 by have := HI.out; omega], by rw [show ly - (k + 1) = j' by have := HJ.out; omega], NX.out (.inr (by omega)) (by rw [HP0.out, ← Hq.out, HQ0.out]), _, rfl⟩, by simp [intOf] <;> omega⟩
        · obtain ⟨i', rfl⟩ : ∃ i', i = i' + 1 := ⟨i - 1, by omega⟩
          have cx := HR1.out.cell i' (by rw [← HLX.out]; omega)
          obtain ⟨p, hp⟩ : ∃ p, p = xs.getD i' 0 := ⟨_, rfl⟩
          rw [← hp] at cx
          have Hp := Lib.hid (hp.trans (TX.out _ rfl).symm)
          have ei : (((i' + 1 : Nat)) : Int) - 1 = (i' : Int) := by omega
          clear hp hi0
          have hil : i' < lx := by omega
          by_cases hj0 : j = 0
          · subst hj0
            have q0 := TY0.out rfl
            have HQ0 := Lib.hid q0
            clear q0
            by_cases h3 : 0 < p
            · have t3 : decide (0 < p) = true := decide_eq_true h3
              go_wp2
              go_ret
              exact ⟨ret_int (GT.out (.inl (by omega)) (by rw [HQ0.out, ← Hp.out]; exact h3)).symm, _, rfl⟩
            · have t3 : decide (0 < p) = false := decide_eq_false h3
              have hp0 : p = 0 := by omega
              have HP0 := Lib.hid hp0
              clear hp0 h3
              go_wp2
              refine ⟨⟨k + 1, by rw [show lx - (k + 1) = i' by have := HI.out; omega], by rw [show ly - (k + 1) = 0 by have := HJ.out; omega], NX.out (.inl (by omega)) (by rw [HQ0.out, ← Hp.out, HP0.out]), _, rfl⟩, by simp [intOf] <;> omega⟩
          · obtain ⟨j', rfl⟩ : ∃ j', j = j' + 1 := ⟨j - 1, by omega⟩
            have cy := HR2.out.cell j' (by rw [← HLY.out]; omega)
            obtain ⟨q, hq⟩ : ∃ q, q = ys.getD j' 0 := ⟨_, rfl⟩
            rw [← hq] at cy
            have Hq := Lib.hid (hq.trans (TY.out _ rfl).symm)
            have ej : (((j' + 1 : Nat)) : Int) - 1 = (j' : Int) := by omega
            clear hq hj0
            have hjl : j' < ly := by omega
            by_cases h3 : p < q
            · have t3 : decide (p < q) = true := decide_eq_true h3
              go_wp2
              go_ret
              exact ⟨ret_int (LT.out (.inl (by omega)) (by rw [← Hp.out, ← Hq.out]; exact h3)).symm, _, rfl⟩
            · have t3 : decide (p < q) = false := decide_eq_false h3
              by_cases h4 : q < p
              · have t4 : decide (q < p) = true := decide_eq_true h4
                go_wp2
                go_ret
                exact ⟨ret_int (GT.out (.inl (by omega)) (by rw [← Hp.out, ← Hq.out]; exact h4)).symm, _, rfl⟩
              · have t4 : decide (q < p) = false := decide_eq_false h4
                have hpq : p = q := by omega
                have HPQ := Lib.hid hpq
                clear hpq h3 h4
                go_wp2
                refine ⟨⟨k + 1, by rw [show lx - (k + 1) = i' by have := HI.out; omega], by rw [show ly - (k + 1) = j' by have := HJ.out; omega], NX.out (.inl (by omega)) (by rw [← Hp.out, ← Hq.out, HPQ.out]), _, rfl⟩, by simp [intOf] <;> omega⟩
end Go.Proofs.Ytlgnaioodnhkjaa

/-
Floats: Cmp; two numbers of 64 bits are compared as floats. No condition.
-/
namespace Go.Proofs.Ytlgnaioodnhkjaa
open Go.RowKit

/-- What Cmp answers. -/
def cmpFV (f1 : Nat) (n1 : Bool) (e1 : Int) (xs : List Nat) (f2 : Nat) (n2 : Bool) (e2 : Int) (ys : List Nat) : Int :=
  if ordV f1 n1 < ordV f2 n2 then -1 else if ordV f2 n2 < ordV f1 n1 then 1 else if ordV f1 n1 = -1 then ucmpV e2 e1 ys xs else if ordV f1 n1 = 1 then ucmpV e1 e2 xs ys else 0
theorem ordV_bd {f : Nat} (neg : Bool) (h : f ≤ 2) : -2 ≤ ordV f neg ∧ ordV f neg ≤ 2 := by unfold ordV; split <;> omega
set_option maxRecDepth 100000 in
set_option maxHeartbeats 1600000 in
theorem cmpF_any (b1 b2 p1 m1 f1 p2 m2 f2 : Nat) (a1 e1 a2 e2 : Int) (n1 n2 : Bool) (v1 v2 : Value) (xs ys : List Nat) (w : World) (h1 : FltR w b1 p1 m1 a1 f1 n1 v1 e1) (h2 : FltR w b2 p2 m2 a2 f2 n2 v2 e2) (hf1 : f1 ≤ 2) (hf2 : f2 ≤ 2) (r1 : f1 = 1 → RW w v1 xs) (r2 : f2 = 1 → RW w v2 ys) (hl1 : xs.length ≤ 1000000000) (hl2 : ys.length ≤ 1000000000) :
    Calls Try.prog 42 #[.pointer (some ⟨b1, 0, none⟩), .pointer (some ⟨b2, 0, none⟩)] w fun e' w' => e' = .returned (.int .i64 (cmpFV f1 n1 e1 xs f2 n2 e2 ys)) ∧ ∃ n, w' = w.drewN n := by
  obtain ⟨o1, ho1⟩ : ∃ o1, o1 = ordV f1 n1 := ⟨_, rfl⟩
  obtain ⟨o2, ho2⟩ : ∃ o2, o2 = ordV f2 n2 := ⟨_, rfl⟩
  have hb1 := ordV_bd n1 hf1
  have hb2 := ordV_bd n2 hf2
  have hd : cmpFV f1 n1 e1 xs f2 n2 e2 ys = if o1 < o2 then -1 else if o2 < o1 then 1 else if o1 = -1 then ucmpV e2 e1 ys xs else if o1 = 1 then ucmpV e1 e2 xs ys else 0 := by rw [ho1, ho2]; rfl
  have hfin : (o1 = -1 ∨ o1 = 1) → f1 = 1 := by rw [ho1]; unfold ordV; split <;> omega
  have hfin2 : (o2 = -1 ∨ o2 = 1) → f2 = 1 := by rw [ho2]; unfold ordV; split <;> omega
  rw [← ho1] at hb1
  rw [← ho2] at hb2
  obtain ⟨hb11, hb12⟩ := hb1
  obtain ⟨hb21, hb22⟩ := hb2
  have HO1 := Lib.hid ho1
  have HO2 := Lib.hid ho2
  have HD := Lib.hid hd
  have H1 := Lib.hid h1
  have H2 := Lib.hid h2
  have R1 := Lib.hid (fun h => r1 (hfin h))
  have R2 := Lib.hid (fun h => r2 (hfin2 h))
  clear h1 h2 r1 r2 hd ho1 ho2 hfin hfin2
  by_cases hlt : o1 < o2
  · have t1 : decide (o1 < o2) = true := decide_eq_true hlt
    have E := Lib.hid (HD.out.trans (if_pos hlt))
    go_enter Try.func42, Try.ntmps42
    go_wp2_with (first | (go_at_call_of 79 (Value.pointer (some ⟨b1, 0, none⟩)); refine (ord_any b1 _ _ _ _ _ _ _ w H1.out hf1).mono ?_; rintro _ _ ⟨rfl, rfl⟩; rw [← HO1.out]) | (go_at_call 79; refine (ord_any b2 _ _ _ _ _ _ _ w H2.out hf2).mono ?_; rintro _ _ ⟨rfl, rfl⟩; rw [← HO2.out]))
    go_ret
    exact ⟨ret_int E.out.symm, 0, rfl⟩
  · have t1 : decide (o1 < o2) = false := decide_eq_false hlt
    by_cases hgt : o2 < o1
    · have t2 : decide (o2 < o1) = true := decide_eq_true hgt
      have E := Lib.hid (HD.out.trans ((if_neg hlt).trans (if_pos hgt)))
      go_enter Try.func42, Try.ntmps42
      go_wp2_with (first | (go_at_call_of 79 (Value.pointer (some ⟨b1, 0, none⟩)); refine (ord_any b1 _ _ _ _ _ _ _ w H1.out hf1).mono ?_; rintro _ _ ⟨rfl, rfl⟩; rw [← HO1.out]) | (go_at_call 79; refine (ord_any b2 _ _ _ _ _ _ _ w H2.out hf2).mono ?_; rintro _ _ ⟨rfl, rfl⟩; rw [← HO2.out]))
      go_ret
      exact ⟨ret_int E.out.symm, 0, rfl⟩
    · obtain rfl : o1 = o2 := by omega
      have t2 : decide (o1 < o1) = false := decide_eq_false (by omega)
      have E := Lib.hid (HD.out.trans ((if_neg hlt).trans (if_neg hgt)))
      clear hlt hgt t1
      rcases (by omega : o1 = -1 ∨ o1 = 1 ∨ o1 = 0 ∨ o1 = 2 ∨ o1 = -2) with rfl | rfl | rfl | rfl | rfl
      · have E1 := E.out
        rw [if_pos rfl] at E1
        have E' := Lib.hid E1
        clear E E1
        go_enter Try.func42, Try.ntmps42
        go_wp2_with (first | (go_at_call_of 79 (Value.pointer (some ⟨b1, 0, none⟩)); refine (ord_any b1 _ _ _ _ _ _ _ w H1.out hf1).mono ?_; rintro _ _ ⟨rfl, rfl⟩; rw [← HO1.out]) | (go_at_call 79; refine (ord_any b2 _ _ _ _ _ _ _ w H2.out hf2).mono ?_; rintro _ _ ⟨rfl, rfl⟩; rw [← HO2.out]))
        refine (ucmp_any b2 b1 _ _ _ _ _ _ _ _ _ _ _ _ _ _ ys xs w H2.out H1.out (R2.out (by simp)) (R1.out (by simp)) hl2 hl1).mono ?_
        rintro _ _ ⟨rfl, nn, rfl⟩
        go_wp2
        go_ret
        exact ⟨ret_int E'.out.symm, nn, rfl⟩
      · have E1 := E.out
        rw [if_neg (by decide), if_pos rfl] at E1
        have E' := Lib.hid E1
        clear E E1
        go_enter Try.func42, Try.ntmps42
        go_wp2_with (first | (go_at_call_of 79 (Value.pointer (some ⟨b1, 0, none⟩)); refine (ord_any b1 _ _ _ _ _ _ _ w H1.out hf1).mono ?_; rintro _ _ ⟨rfl, rfl⟩; rw [← HO1.out]) | (go_at_call 79; refine (ord_any b2 _ _ _ _ _ _ _ w H2.out hf2).mono ?_; rintro _ _ ⟨rfl, rfl⟩; rw [← HO2.out]))
        refine (ucmp_any b1 b2 _ _ _ _ _ _ _ _ _ _ _ _ _ _ xs ys w H1.out H2.out (R1.out (by simp)) (R2.out (by simp)) hl1 hl2).mono ?_
        rintro _ _ ⟨rfl, nn, rfl⟩
        go_wp2
        go_ret
        exact ⟨ret_int E'.out.symm, nn, rfl⟩
      all_goals
        have E1 := E.out
        rw [if_neg (by decide), if_neg (by decide)] at E1
        have E' := Lib.hid E1
        clear E E1
        go_enter Try.func42, Try.ntmps42
        go_wp2_with (first | (go_at_call_of 79 (Value.pointer (some ⟨b1, 0, none⟩)); refine (ord_any b1 _ _ _ _ _ _ _ w H1.out hf1).mono ?_; rintro _ _ ⟨rfl, rfl⟩; rw [← HO1.out]) | (go_at_call 79; refine (ord_any b2 _ _ _ _ _ _ _ w H2.out hf2).mono ?_; rintro _ _ ⟨rfl, rfl⟩; rw [← HO2.out]))
        go_ret
        exact ⟨ret_int E'.out.symm, 0, rfl⟩
/-- The order of two numbers. -/
def cmpI (a b : Int) : Int := if a < b then -1 else if b < a then 1 else 0
theorem cmpN_mul (x y : Nat) {S : Nat} (h : 0 < S) : cmpN (x * S) (y * S) = cmpN x y := by
  rcases Nat.lt_trichotomy x y with h1 | h1 | h1
  · rw [cmpN_lt h1, cmpN_lt (Nat.mul_lt_mul_of_pos_right h1 h)]
  · rw [h1, cmpN_eq, cmpN_eq]
  · rw [cmpN_gt h1, cmpN_gt (Nat.mul_lt_mul_of_pos_right h1 h)]
theorem bl_lt {x y : Nat} (h : bl x < bl y) : x < y := by
  refine Nat.lt_of_not_le fun hc => ?_
  have := bl_mono hc
  omega
/-- One word each: the order of the magnitudes. -/
theorem ucmpV_one (x y : Nat) : ucmpV (bl x : Nat) (bl y : Nat) [x * 2 ^ (64 - bl x)] [y * 2 ^ (64 - bl y)] = cmpN x y := by
  rcases Nat.lt_trichotomy (bl x) (bl y) with h | h | h
  · rw [ucmpV_lt _ _ (by omega), cmpN_lt (bl_lt h)]
  · rw [h, ucmpV_eq]
    have hS : 0 < 2 ^ (64 - bl y) := Nat.pow_pos (by decide)
    have e : ∀ z, topV [z] 1 = z * 18446744073709551616 := fun z => by simp [topV, wv]
    show cmpN (topV [x * 2 ^ (64 - bl y)] 1) (topV [y * 2 ^ (64 - bl y)] 1) = _
    rw [e, e, cmpN_mul _ _ (by decide), cmpN_mul _ _ hS]
  · rw [ucmpV_gt _ _ (by omega), cmpN_gt (bl_lt h)]
theorem cmpFV_int {a b : Int} (_ha : a ≠ 0) (_hb : b ≠ 0) : cmpFV 1 (decide (a < 0)) (bl a.natAbs : Nat) [a.natAbs * 2 ^ (64 - bl a.natAbs)] 1 (decide (b < 0)) (bl b.natAbs : Nat) [b.natAbs * 2 ^ (64 - bl b.natAbs)] = cmpI a b := by
  unfold cmpFV cmpI ordV
  rw [ucmpV_one, ucmpV_one]
  unfold cmpN
  by_cases h1 : a < 0 <;> by_cases h2 : b < 0 <;> simp only [h1, h2, decide_true, decide_false, if_true, if_false, Bool.false_eq_true] <;> (repeat' split) <;> omega
theorem cmpFV_zl {b : Int} (e : Int) (xs : List Nat) (hb : b ≠ 0) (e2 : Int) (ys : List Nat) : cmpFV 0 false e xs 1 (decide (b < 0)) e2 ys = cmpI 0 b := by
  unfold cmpFV cmpI ordV
  by_cases h2 : b < 0 <;> simp only [h2, decide_true, decide_false, if_true, if_false, Bool.false_eq_true] <;> (repeat' split) <;> omega
theorem cmpFV_zr {a : Int} (e : Int) (xs : List Nat) (ha : a ≠ 0) (e2 : Int) (ys : List Nat) : cmpFV 1 (decide (a < 0)) e xs 0 false e2 ys = cmpI a 0 := by
  unfold cmpFV cmpI ordV
  by_cases h2 : a < 0 <;> simp only [h2, decide_true, decide_false, if_true, if_false, Bool.false_eq_true] <;> (repeat' split) <;> omega
end Go.Proofs.Ytlgnaioodnhkjaa
