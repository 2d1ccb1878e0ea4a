/-
Natural numbers of the reference: Cmp, Sub. No condition.
-/
import Derived.Test.YtniingblgkghgaaSpD
namespace Go.Proofs.Ytniingblgkghgaa
open Go.RowKit

/-- What Cmp answers. -/
def cmpN (x y : Nat) : Int := if x < y then -1 else if y < x then 1 else 0
theorem cmpN_lt {x y : Nat} (h : x < y) : cmpN x y = -1 := if_pos h
theorem cmpN_gt {x y : Nat} (h : y < x) : cmpN x y = 1 := by unfold cmpN; rw [if_neg (by omega), if_pos h]
theorem cmpN_eq (x : Nat) : cmpN x x = 0 := by unfold cmpN; simp
theorem cmpN_le (x y : Nat) : cmpN x y ≤ 0 ↔ x ≤ y := by unfold cmpN; split; omega; split <;> omega
theorem cmpN_zero (x y : Nat) : cmpN x y = 0 ↔ x = y := by unfold cmpN; split; omega; split <;> omega
theorem cmpN_ge (x y : Nat) : 0 ≤ cmpN x y ↔ y ≤ x := by unfold cmpN; split; omega; split <;> omega
theorem cmpN_bd (x y : Nat) : -1 ≤ cmpN x y ∧ cmpN x y ≤ 1 := by unfold cmpN; split; omega; split <;> omega
theorem lt_of_nl {x y : Nat} (h : nl x < nl y) : x < y := by
  refine Nat.lt_of_not_le fun hc => ?_
  have := nl_mono hc
  omega
theorem lt_of_dig_lt {x y i : Nat} (he : x / 65536 ^ (i + 1) = y / 65536 ^ (i + 1)) (h : dig x i < dig y i) : x < y := by
  have h1 := div_pow_step x i
  have h2 := div_pow_step y i
  refine Nat.lt_of_not_le fun hc => ?_
  have := Nat.div_le_div_right (c := 65536 ^ i) hc
  omega
theorem ret_int {a b : Int} (h : a = b) : Ending.returned (.int .i64 a) = Ending.returned (.int .i64 b) := by rw [h]
set_option maxRecDepth 100000 in
set_option maxHeartbeats 400000 in
theorem spCmp (a b : Value) (x y : Nat) (w : World) (ha : NatV w a x) (hb : NatV w b y) (hx : nl x ≤ 1000000000) (hy : nl y ≤ 1000000000) :
    Calls Try.prog 68 #[a, b] w fun e w' => e = .returned (.int .i64 (cmpN x y)) ∧ Below w.heap.size w w' := by
  have hSa := ha.isS
  have hSb := hb.isS
  have hLa := ha.len
  have hLb := hb.len
  obtain ⟨la, hla⟩ : ∃ la, la = nl x := ⟨_, rfl⟩
  obtain ⟨lb, hlb⟩ : ∃ lb, lb = nl y := ⟨_, rfl⟩
  rw [← hla] at hLa hx
  rw [← hlb] at hLb hy
  have Hla := Lib.hid hla
  have Hlb := Lib.hid hlb
  have Ha := Lib.hid ha
  have Hb := Lib.hid hb
  clear hla hlb ha hb
  go_enter Try.func68, Try.ntmps68
  by_cases h1 : la < lb
  · have t1 : decide (la < lb) = true := by rw [decide_eq_true_iff]; exact h1
    go_wp2
    go_ret
    exact ⟨ret_int (cmpN_lt (lt_of_nl (by rw [← Hla.out, ← Hlb.out]; exact h1))).symm, Below.refl _ _⟩
  · have t1 : decide (la < lb) = false := by rw [decide_eq_false_iff_not]; exact h1
    by_cases h2 : lb < la
    · have t2 : decide (lb < la) = true := by rw [decide_eq_true_iff]; exact h2
      go_wp2
      go_ret
      exact ⟨ret_int (cmpN_gt (lt_of_nl (by rw [← Hla.out, ← Hlb.out]; exact h2))).symm, Below.refl _ _⟩
    · have t2 : decide (lb < la) = false := by rw [decide_eq_false_iff_not]; exact h2
      have HE := Lib.hid (show la = lb by omega)
      go_wp2
      go_loopw [5] (fun i wr => ∃ k : Nat, k ≤ la ∧ i = .int .i64 ((k : Int) - 1) ∧ x / 65536 ^ k = y / 65536 ^ k ∧ Below w.heap.size w wr) (fun i _ => (intOf i + 1).toNat)
      case atStart =>
        refine ⟨la, Nat.le_refl _, by go_num, ?_, Below.refl _ _⟩
        have e1 := lt_nl x
        have e2 := lt_nl y
        rw [← Hla.out] at e1
        rw [← Hlb.out, ← HE.out] at e2
        rw [Nat.div_eq_of_lt e1, Nat.div_eq_of_lt e2]
      case round =>
        obtain ⟨k, hk, rfl, hv, hbl⟩ := hrel
        have Hv := Lib.hid hv
        clear hv
        by_cases hk0 : 0 < k
        · obtain ⟨j, rfl⟩ : ∃ j, k = j + 1 := ⟨k - 1, by omega⟩
          have ca := (Ha.out.below hbl).cell j (by rw [← Hla.out]; omega)
          have cb := (Hb.out.below hbl).cell j (by rw [← Hlb.out]; omega)
          have hjb : j < lb := by omega
          obtain ⟨p, hp⟩ : ∃ p, p = dig x j := ⟨_, rfl⟩
          obtain ⟨q, hq⟩ : ∃ q, q = dig y j := ⟨_, rfl⟩
          rw [← hp] at ca
          rw [← hq] at cb
          have Hp := Lib.hid hp
          have Hq := Lib.hid hq
          clear hp hq
          rw [show ((j + 1 : Nat) : Int) - 1 = (j : Int) by omega]
          have t3 : decide ((0:Int) ≤ (j : Int)) = true := by rw [decide_eq_true_iff]; omega
          by_cases h3 : p < q
          · have t4 : decide (p < q) = true := by rw [decide_eq_true_iff]; exact h3
            go_wp2
            go_quiet (fail)
            go_wp2
            go_ret
            exact ⟨ret_int (cmpN_lt (lt_of_dig_lt Hv.out (by rw [← Hp.out, ← Hq.out]; exact h3))).symm, undrewN' hbl⟩
          · have t4 : decide (p < q) = false := by rw [decide_eq_false_iff_not]; exact h3
            by_cases h4 : q < p
            · have t5 : decide (q < p) = true := by rw [decide_eq_true_iff]; exact h4
              go_wp2
              go_quiet (fail)
              go_wp2
              go_quiet (fail)
              go_wp2
              go_ret
              exact ⟨ret_int (cmpN_gt (lt_of_dig_lt Hv.out.symm (by rw [← Hp.out, ← Hq.out]; exact h4))).symm, undrewN' (undrewN' hbl)⟩
            · have t5 : decide (q < p) = false := by rw [decide_eq_false_iff_not]; exact h4
              go_wp2
              go_quiet (fail)
              go_wp2
              go_quiet (fail)
              go_wp2
              refine ⟨⟨j, by omega, by go_num, ?_, by first | exact undrewN' (undrewN' hbl) | exact undrewN' hbl⟩, by simp [intOf]⟩
              rw [div_pow_step x j, div_pow_step y j, Hv.out, ← Hp.out, ← Hq.out]
              omega
        · have hk1 : k = 0 := by omega
          subst hk1
          go_wp2
          go_ret
          have e := Hv.out
          rw [Nat.pow_zero, Nat.div_one, Nat.div_one] at e
          rw [e, cmpN_eq]
          exact ⟨rfl, hbl⟩

/-- Sub's relation. -/
def SuRel (x y B : Nat) (w : World) (i c : Nat) (v : Value) (wr : World) : Prop := ∃ ds : List Nat, Own wr B 3 v (cellsN ds) ∧ (∀ d ∈ ds, d < 65536) ∧ ds.length = i ∧ val ds + y % 65536 ^ i = x % 65536 ^ i + 65536 ^ i * c ∧ Below B w wr
theorem SuRel.step {x y B k c c' r : Nat} {w w1 : World} {v1 : Value} {ds : List Nat} (hd : ∀ d ∈ ds, d < 65536) (hdl : ds.length = k) (hv : val ds + y % 65536 ^ k = x % 65536 ^ k + 65536 ^ k * c)
    (hr : r < 65536) (hS : r + c + dig y k = dig x k + 65536 * c') (ho : Own w1 B 3 v1 (cellsN ds ++ [.int .i64 (r : Int)])) (hb : Below B w w1) : SuRel x y B w (k + 1) c' v1 w1 := by
  rw [cellsN_snoc] at ho
  refine ⟨_, ho, ?_, by simp [hdl], ?_, hb⟩
  · intro z hz
    rcases List.mem_append.1 hz with h | h
    · exact hd z h
    · rw [List.mem_singleton.1 h]; omega
  · rw [val_snoc, hdl, mod_succ, mod_succ, Nat.pow_succ]
    generalize 65536 ^ k = p at *
    grind
set_option maxRecDepth 100000 in
set_option maxHeartbeats 800000 in
theorem spSub (a b : Value) (x y : Nat) (w : World) (ha : NatV w a x) (hb : NatV w b y) (hx : nl x ≤ 1000000000) (hy : y ≤ x) :
    Calls Try.prog 69 #[a, b] w fun e w' => ∃ r, e = .returned r ∧ NPost (x - y) w r w' := by
  have hSa := ha.isS
  have hSb := hb.isS
  have hLa := ha.len
  have hLb := hb.len
  have hlab := nl_mono hy
  obtain ⟨la, hla⟩ : ∃ la, la = nl x := ⟨_, rfl⟩
  obtain ⟨lb, hlb⟩ : ∃ lb, lb = nl y := ⟨_, rfl⟩
  rw [← hla] at hLa hx hlab
  rw [← hlb] at hLb hlab
  have Hla := Lib.hid hla
  have Hlb := Lib.hid hlb
  have Ha := Lib.hid ha
  have Hb := Lib.hid hb
  clear hla hlb ha hb
  go_enter Try.func69, Try.ntmps69
  go_wp2
  go_loopw [5, 6, 12] (fun v c i wr => ∃ k cc : Nat, k ≤ la ∧ cc ≤ 1 ∧ i = .int .i64 k ∧ c = .int .i64 cc ∧ SuRel x y w.heap.size w k cc v wr) (fun _ _ i _ => la - (intOf i).toNat)
  case atStart => exact ⟨0, 0, Nat.zero_le _, by decide, rfl, rfl, [], Own.zero _ _ _ _ _, by simp, rfl, by simp [val, Nat.mod_one], (Below.refl _ _).alloc (Nat.le_refl _) _⟩
  case round =>
    obtain ⟨k, c, hk, hc, rfl, rfl, ds, ho, hd, hdl, hv, hbl⟩ := hrel
    have Hd := Lib.hid hd
    have Hdl := Lib.hid hdl
    have Hv := Lib.hid hv
    have hbz := hbl.size
    have Hcl := Lib.hid (cellsN_length ds)
    clear hd hdl hv
    by_cases hka : k < la
    · have ca := (Ha.out.below hbl).cell k (by rw [← Hla.out]; exact hka)
      have g1 := dig_lt x k
      have g2 := dig_lt y k
      have cb : k < lb → _ := fun h => (Hb.out.below hbl).cell k (by rw [← Hlb.out]; exact h)
      have hyz : ¬ k < lb → dig y k = 0 := fun h => dig_ge (by rw [← Hlb.out]; omega)
      obtain ⟨p, hp⟩ : ∃ p, p = dig x k := ⟨_, rfl⟩
      obtain ⟨q, hq⟩ : ∃ q, q = dig y k := ⟨_, rfl⟩
      rw [← hp] at ca g1
      rw [← hq] at cb hyz g2
      have Hp := Lib.hid hp
      have Hq := Lib.hid hq
      clear hp hq
      have fin : ∀ (r c' : Nat), r < 65536 → r + c + q = p + 65536 * c' → ∀ (v1 : Value) (w1 : World), Own w1 w.heap.size 3 v1 (cellsN ds ++ [.int .i64 (r : Int)]) → Below w.heap.size w w1 → SuRel x y w.heap.size w (k + 1) c' v1 w1 :=
        fun r c' h1 h2 v1 w1 h3 h4 => SuRel.step Hd.out Hdl.out Hv.out h1 (by rw [← Hp.out, ← Hq.out]; exact h2) h3 h4
      have Fin := Lib.hid fin
      have hdlk : ds.length ≤ 1000000000 := by have := Hdl.out; omega
      clear fin
      have hsplit : (k < lb ∧ p < c + q) ∨ (k < lb ∧ c + q ≤ p) ∨ (¬ k < lb ∧ p < c) ∨ (¬ k < lb ∧ c ≤ p) := by omega
      rcases hsplit with ⟨hkb, hpq⟩ | ⟨hkb, hpq⟩ | ⟨hkb, hpq⟩ | ⟨hkb, hpq⟩
      case' inl =>
        have cb' := cb hkb
        have t1 : decide (k < lb) = true := by rw [decide_eq_true_iff]; exact hkb
        have t2 : decide ((p : Int) - c - q < 0) = true := by rw [decide_eq_true_iff]; omega
        obtain ⟨r, hr⟩ : ∃ r : Nat, (r : Int) = (p : Int) - c - q + 65536 := ⟨(p + 65536) - c - q, by omega⟩
        have hf := Fin.out r 1 (by omega) (by omega)
      case' inr.inl =>
        have cb' := cb hkb
        have t1 : decide (k < lb) = true := by rw [decide_eq_true_iff]; exact hkb
        have t2 : decide ((p : Int) - c - q < 0) = false := by rw [decide_eq_false_iff_not]; omega
        obtain ⟨r, hr⟩ : ∃ r : Nat, (r : Int) = (p : Int) - c - q := ⟨p - c - q, by omega⟩
        have hf := Fin.out r 0 (by omega) (by omega)
      case' inr.inr.inl =>
        have cb' := hyz hkb
        have t1 : decide (k < lb) = false := by rw [decide_eq_false_iff_not]; exact hkb
        have t2 : decide ((p : Int) - c < 0) = true := by rw [decide_eq_true_iff]; omega
        obtain ⟨r, hr⟩ : ∃ r : Nat, (r : Int) = (p : Int) - c + 65536 := ⟨(p + 65536) - c, by omega⟩
        have hf := Fin.out r 1 (by omega) (by omega)
        clear cb'
      case' inr.inr.inr =>
        have cb' := hyz hkb
        have t1 : decide (k < lb) = false := by rw [decide_eq_false_iff_not]; exact hkb
        have t2 : decide ((p : Int) - c < 0) = false := by rw [decide_eq_false_iff_not]; omega
        obtain ⟨r, hr⟩ : ∃ r : Nat, (r : Int) = (p : Int) - c := ⟨p - c, by omega⟩
        have hf := Fin.out r 0 (by omega) (by omega)
        clear cb'
      all_goals
        rw [hr] at hf
        have Hf := Lib.hid hf
        clear hf hr hyz cb
        go_wp2_with (at_builtin; refine wpList_append_O rfl _ _ _ _ rfl elemN w.heap.size _ _ rfl (ho.alloc _) _ rfl 1 [.int .i64 _] (srcOne Try.underlying34 wr _ _) ?_ ?_ ?_ ?_)
        · rw [Hcl.out]; unfold maxLen; omega
        · rw [Hcl.out]; omega
        · simp; omega
        · intro v1 w1 ho1 hb1 _ _ _
          have hs := Hf.out v1 w1 ho1 ((hbl.alloc hbz _).trans hb1)
          have Hs := Lib.hid hs
          clear hs ho1
          go_wp2
          refine ⟨⟨k + 1, _, by omega, ?_, by go_num, ?_, Hs.out⟩, by simp [intOf]; omega⟩
          · omega
          · rfl
    · have hkl : k = la := by omega
      subst hkl
      go_wp2_with fail
      refine (spTrim _ ds wr ho.rl Hd.out (by have := Hdl.out; omega)).mono ?_
      rintro _ _ ⟨r, rfl, hr, rfl⟩
      have Hr := Lib.hid hr
      clear hr
      go_wp2
      go_ret
      refine ⟨_, rfl, ?_, hbl⟩
      have e1 := Hv.out
      have e2 := val_lt Hd.out
      rw [Hdl.out] at e2
      rw [mod_nl (n := x) (by rw [← Hla.out]; exact Nat.le_refl _), mod_nl (n := y) (by rw [← Hlb.out]; exact hlab)] at e1
      have hc0 : c = 0 := by
        rcases (by omega : c = 0 ∨ c = 1) with h | h
        · exact h
        · rw [h] at e1; omega
      rw [hc0] at e1
      rw [show x - y = val ds by omega]
      exact Hr.out
end Go.Proofs.Ytniingblgkghgaa
