/-
Natural numbers of the reference and words: Words, HasWords. No condition.
-/
import Derived.Test.YtedmkbpfmddafaaWdB
namespace Go.Proofs.Ytedmkbpfmddafaa
open Go.RowKit

/-- Words' relation: i digits are laid. -/
def WdRel (x B i : Nat) (w : World) (v : Value) (wr : World) : Prop :=
  ∃ ws : List Nat, Own wr B 29 v (cellsW ws) ∧ ws.length = (i + 3) / 4 ∧ (∀ d ∈ ws, d < 18446744073709551616) ∧ wv ws = x % 65536 ^ i ∧ Below B w wr
theorem pow_split4 (i : Nat) : (65536 : Nat) ^ i = 18446744073709551616 ^ (i / 4) * 65536 ^ (i % 4) := by
  rw [wpow, ← Nat.pow_add, Nat.div_add_mod]
theorem or_low {o d P : Nat} {r : Nat} (hP : P = 65536 ^ r) (ho : o < P) : o ||| d * P = o + d * P := by
  have e : P = 2 ^ (16 * r) := by rw [hP, pow16]
  have h := Nat.two_pow_add_eq_or_of_lt (i := 16 * r) (b := o) (by rw [← e]; exact ho) d
  rw [← e] at h
  rw [Nat.or_comm, Nat.mul_comm d P, ← h]; omega
/-- The word in which the next digit lies. -/
theorem wd_word {x i : Nat} {ws : List Nat} (hl : ws.length = i / 4 + 1) (hd : ∀ d ∈ ws, d < 18446744073709551616) (hv : wv ws = x % 65536 ^ i) : ws.getD (i / 4) 0 < 65536 ^ (i % 4) := by
  rw [← wv_dig hd, hv]
  have h1 := Nat.mod_lt x (pow_pos i)
  rw [pow_split4 i] at h1
  unfold wdg
  refine Nat.lt_of_le_of_lt (Nat.mod_le _ _) (Nat.div_lt_of_lt_mul ?_)
  rw [pow_split4 i]
  exact h1
theorem WdRel.step {x B i : Nat} {w wr : World} {v : Value} {ws : List Nat} (ho : Own wr B 29 v (cellsW ws)) (hl : ws.length = i / 4 + 1) (hd : ∀ d ∈ ws, d < 18446744073709551616) (hv : wv ws = x % 65536 ^ i) (hb : Below B w wr) :
    WdRel x B (i + 1) w v (wr.setCell ⟨sBlk v, sOff v + i / 4, none⟩ (.int .u64 ((ws.getD (i / 4) 0 ||| dig x i * 65536 ^ (i % 4) : Nat) : Int))) := by
  have hw := wd_word hl hd hv
  have hdl := dig_lt x i
  rw [or_low rfl hw]
  have hp : 65536 ^ (i % 4) * 65536 ≤ 18446744073709551616 := by
    rw [← Nat.pow_succ]
    exact Nat.pow_le_pow_right (show 0 < 65536 by decide) (show i % 4 + 1 ≤ 4 by omega)
  have hlt : ws.getD (i / 4) 0 + dig x i * 65536 ^ (i % 4) < 18446744073709551616 := by
    have : (dig x i + 1) * 65536 ^ (i % 4) ≤ 65536 * 65536 ^ (i % 4) := Nat.mul_le_mul_right _ hdl
    rw [Nat.add_mul, Nat.one_mul] at this
    omega
  have s1 := ho.set (i := i / 4) (by rw [cellsW_length]; omega) (.int .u64 ((ws.getD (i / 4) 0 + dig x i * 65536 ^ (i % 4) : Nat) : Int))
  rw [cellsW_set] at s1
  have hl2 := ho.len
  rw [cellsW_length] at hl2
  have hcp := ho.isS.le
  refine ⟨_, s1, by simp; omega, ?_, ?_, bset hb (ho.lt (by omega)).1⟩
  · intro z hz'
    rcases List.mem_or_eq_of_mem_set hz' with h | h
    · exact hd z h
    · rw [h]; exact hlt
  · have e1 := wv_set (a := ws) (i := i / 4) (by omega) (ws.getD (i / 4) 0 + dig x i * 65536 ^ (i % 4))
    rw [mod_succ, ← hv, pow_split4 i]
    generalize wv (ws.set _ _) = V at *
    generalize ws.getD (i / 4) 0 = o at *
    generalize dig x i = d at *
    generalize (18446744073709551616 : Nat) ^ (i / 4) = A at *
    generalize (65536 : Nat) ^ (i % 4) = P at *
    grind
def WPost (ws : List Nat) (w : World) (v : Value) (w' : World) : Prop := RW w' v ws ∧ Below w.heap.size w w'
set_option maxRecDepth 100000 in
set_option maxHeartbeats 800000 in
theorem spWords (a : Value) (x : Nat) (w : World) (ha : NatV w a x) (hx : nl x ≤ 1000000000) :
    Calls Try.prog 53 #[a] w fun e w' => ∃ r, e = .returned r ∧ WPost (wds x) w r w' := by
  have hSa := ha.isS
  have hLa := ha.len
  obtain ⟨la, hla⟩ : ∃ la, la = nl x := ⟨_, rfl⟩
  rw [← hla] at hLa hx
  have Hla := Lib.hid hla
  have Ha := Lib.hid ha
  clear hla ha
  go_enter Try.func53, Try.ntmps53
  go_wp2
  go_loopw [3, 9] (fun v i wr => ∃ k : Nat, k ≤ la ∧ i = .int .i64 k ∧ WdRel x w.heap.size k w v wr) (fun _ i _ => la - (intOf i).toNat)
  case atStart => exact ⟨0, Nat.zero_le _, rfl, [], Own.zero _ _ _ _ _, by simp, by simp, by simp [wv, Nat.mod_one], (Below.refl _ _).alloc (Nat.le_refl _) _⟩
  case round =>
    obtain ⟨i, hi, rfl, ws, ho, hol, hod, hov, hbl⟩ := hrel
    have hbz := hbl.size
    have hSo := ho.isS
    by_cases hia : i < la
    · have ca := (Ha.out.below hbl).cell i (by rw [← Hla.out]; exact hia)
      have g1 := dig_lt x i
      have hdX : ∃ d, d = dig x i := ⟨_, rfl⟩
      obtain ⟨d, hd⟩ := hdX
      rw [← hd] at ca g1
      have Hd := Lib.hid hd
      clear hd
      obtain ⟨q, hq⟩ : ∃ q, q = i / 4 := ⟨_, rfl⟩
      obtain ⟨r, hr⟩ : ∃ r, r = i % 4 := ⟨_, rfl⟩
      have e1 : (i : Int) / 4 = (q : Int) := by omega
      have e2 : (i : Int) % 4 = (r : Int) := by omega
      have hqi : q ≤ i := by omega
      have hr4 : r < 4 := by omega
      have Hq := Lib.hid hq
      have Hr := Lib.hid hr
      have Hol := Lib.hid hol
      have Hod := Lib.hid hod
      have Hov := Lib.hid hov
      have Hcl := Lib.hid (cellsW_length ws)
      have hwl : ws.length ≤ 1000000000 := by omega
      by_cases h0 : r = 0
      · have t1 : ((r : Int) == 0) = true := by rw [beq_iff_eq]; omega
        have hlq : ws.length = q := by omega
        have Hlq := Lib.hid hlq
        clear h0 hq hr hol hod hov hlq
        go_wp2_with (at_builtin; refine wpList_append_O rfl _ _ _ _ rfl elemU w.heap.size _ _ rfl (ho.alloc _) _ rfl 1 [.int .u64 (0 : Int)] (srcOne Try.underlying42 wr _ _) ?c3 ?c4 ?c5 ?_)
        case c3 => rw [Hcl.out]; unfold maxLen; omega
        case c4 => rw [Hcl.out]; omega
        case c5 => simp; omega
        rintro v1 w1 ho1 hb1 - - -
        rw [show cellsW ws ++ [Value.int .u64 (0 : Int)] = cellsW (ws ++ [0]) by simp [cellsW]] at ho1
        have HO := Lib.hid ho1
        have HL : Hid ((ws ++ [0]).length = q + 1) := Lib.hid (by have := Hlq.out; simp; omega)
        have HDD : Hid (∀ d ∈ ws ++ [0], d < 18446744073709551616) := Lib.hid (by
          intro z hz
          rcases List.mem_append.1 hz with h | h
          · exact Hod.out z h
          · rw [List.mem_singleton.1 h]; decide)
        have HV : Hid (wv (ws ++ [0]) = x % 65536 ^ i) := Lib.hid (by rw [wv_snoc, Hov.out]; omega)
        have HB : Hid (Below w.heap.size w w1) := Lib.hid ((hbl.alloc hbz _).trans hb1)
        have cap1 : 0 < sCap v1 := by have := HO.out.isS.le; rw [HO.out.len, cellsW_length] at this; have := HL.out; omega
        have fz := HO.out.frozen cap1 (sOff v1 + q)
        have co := (HO.out.rw' HDD.out).cell q (by rw [HL.out]; omega)
        have hwd := wd_word (by rw [← Hq.out]; exact HL.out) HDD.out HV.out
        have hSv := HO.out.isS
        have hLv : sLen v1 = q + 1 := by rw [HO.out.len, cellsW_length]; exact HL.out
        rw [← Hq.out, ← Hr.out] at hwd
        obtain ⟨o, ho'⟩ : ∃ o, o = (ws ++ [0]).getD q 0 := ⟨_, rfl⟩
        rw [← ho'] at co hwd
        have hp : (2 : Int) ^ (16 * r) = ((65536 ^ r : Nat) : Int) := by rw [pow16]; simp
        have hPb : 65536 ^ r ≤ 281474976710656 := Nat.pow_le_pow_right (show 0 < 65536 by decide) (show r ≤ 3 by omega)
        obtain ⟨P, hP⟩ : ∃ P, P = 65536 ^ r := ⟨_, rfl⟩
        rw [← hP] at hp hPb hwd
        have hmb : d * P ≤ 65535 * 281474976710656 := Nat.mul_le_mul (by omega) hPb
        obtain ⟨m, hm⟩ : ∃ m, m = d * P := ⟨_, rfl⟩
        rw [← hm] at hmb
        have hdm : (d : Int) * (P : Int) = (m : Int) := by rw [hm]; simp
        have hor := bits_or_u64_nat o m (by omega) (by omega)
        obtain ⟨z, hz⟩ : ∃ z, z = o ||| m := ⟨_, rfl⟩
        rw [← hz] at hor
        have st : ∀ n, WdRel x w.heap.size (i + 1) w v1 ((w1.drewN n).setCell ⟨sBlk v1, sOff v1 + q, none⟩ (.int .u64 (z : Int))) := fun n => by
          have := WdRel.step (HO.out.drewN n) (by rw [← Hq.out]; exact HL.out) HDD.out HV.out (undrewN' HB.out)
          rw [← Hq.out, ← Hr.out, ← Hd.out] at this
          rw [hz, hm, hP, ho']
          exact this
        have St := Lib.hid st
        clear st ho' hP hm hz
        go_wp2
        (refine wp_region_hoist 13 (by kernel_rfl) (by kernel_rfl) ⟨fun _ _ _ h => (by first | cases h.2.1 | (obtain ⟨_, h3, _⟩ := h.2; cases h3)), fun _ _ h => (by first | cases h.1 | (obtain ⟨_, h3, _⟩ := h; cases h3))⟩ ?_; simp only [List.take_succ_cons, List.take_zero, List.drop_succ_cons, List.drop_zero]; (repeat (go_big_quiet_step (fail))); refine wpQuiet_nil ?_; rintro _ ⟨nq, rfl⟩)
        go_wp2
        exact ⟨⟨i + 1, by omega, by go_num, St.out nq⟩, by simp [intOf]; omega⟩
      · have t1 : ((r : Int) == 0) = false := by rw [beq_eq_false_iff_ne]; omega
        have HO := Lib.hid ho
        have HL : Hid (ws.length = q + 1) := Lib.hid (by omega)
        have HDD : Hid (∀ d ∈ ws, d < 18446744073709551616) := Lib.hid hod
        have HV : Hid (wv ws = x % 65536 ^ i) := Lib.hid hov
        have HB : Hid (Below w.heap.size w wr) := Lib.hid hbl
        clear ho hol hod hov hq hr
        have cap1 : 0 < sCap u3 := by have := HO.out.isS.le; rw [HO.out.len, cellsW_length] at this; have := HL.out; omega
        have fz := HO.out.frozen cap1 (sOff u3 + q)
        have co := (HO.out.rw' HDD.out).cell q (by rw [HL.out]; omega)
        have hwd := wd_word (by rw [← Hq.out]; exact HL.out) HDD.out HV.out
        have hSv := HO.out.isS
        have hLv : sLen u3 = q + 1 := by rw [HO.out.len, cellsW_length]; exact HL.out
        rw [← Hq.out, ← Hr.out] at hwd
        obtain ⟨o, ho'⟩ : ∃ o, o = ws.getD q 0 := ⟨_, rfl⟩
        rw [← ho'] at co hwd
        have hp : (2 : Int) ^ (16 * r) = ((65536 ^ r : Nat) : Int) := by rw [pow16]; simp
        have hPb : 65536 ^ r ≤ 281474976710656 := Nat.pow_le_pow_right (show 0 < 65536 by decide) (show r ≤ 3 by omega)
        obtain ⟨P, hP⟩ : ∃ P, P = 65536 ^ r := ⟨_, rfl⟩
        rw [← hP] at hp hPb hwd
        have hmb : d * P ≤ 65535 * 281474976710656 := Nat.mul_le_mul (by omega) hPb
        obtain ⟨m, hm⟩ : ∃ m, m = d * P := ⟨_, rfl⟩
        rw [← hm] at hmb
        have hdm : (d : Int) * (P : Int) = (m : Int) := by rw [hm]; simp
        have hor := bits_or_u64_nat o m (by omega) (by omega)
        obtain ⟨z, hz⟩ : ∃ z, z = o ||| m := ⟨_, rfl⟩
        rw [← hz] at hor
        have st : ∀ n, WdRel x w.heap.size (i + 1) w u3 ((wr.drewN n).setCell ⟨sBlk u3, sOff u3 + q, none⟩ (.int .u64 (z : Int))) := fun n => by
          have := WdRel.step (HO.out.drewN n) (by rw [← Hq.out]; exact HL.out) HDD.out HV.out (undrewN' HB.out)
          rw [← Hq.out, ← Hr.out, ← Hd.out] at this
          rw [hz, hm, hP, ho']
          exact this
        have St := Lib.hid st
        clear st ho' hP hm hz
        go_wp2
        (refine wp_region_hoist 13 (by kernel_rfl) (by kernel_rfl) ⟨fun _ _ _ h => (by first | cases h.2.1 | (obtain ⟨_, h3, _⟩ := h.2; cases h3)), fun _ _ h => (by first | cases h.1 | (obtain ⟨_, h3, _⟩ := h; cases h3))⟩ ?_; simp only [List.take_succ_cons, List.take_zero, List.drop_succ_cons, List.drop_zero]; (repeat (go_big_quiet_step (fail))); refine wpQuiet_nil ?_; rintro _ ⟨nq, rfl⟩)
        go_wp2
        exact ⟨⟨i + 1, by omega, by go_num, St.out nq⟩, by simp [intOf]; omega⟩
    · have hil : i = la := by omega
      have Hol := Lib.hid hol
      have Hod := Lib.hid hod
      have Hov := Lib.hid hov
      subst hil
      clear hol hod hov
      go_wp2
      go_ret
      refine ⟨_, rfl, ?_, hbl⟩
      have e1 := Hov.out
      rw [mod_nl (by rw [← Hla.out]; exact Nat.le_refl _)] at e1
      have e2 : ws = wds x := by
        rw [← e1]
        refine wds_of Hod.out ?_
        rw [e1, Hol.out, Hla.out]; rfl
      rw [← e2]
      exact ho.rw' Hod.out
end Go.Proofs.Ytedmkbpfmddafaa
