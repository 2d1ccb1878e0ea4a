/-
FnDecimalRound: the walk. No condition.
-/
import Derived.Test.YtedmkbpfmddafaaDecH
import Derived.Test.YtedmkbpfmddafaaDecE
namespace Go.Proofs.Ytedmkbpfmddafaa
open Go.RowKit

set_option maxRecDepth 100000 in
set_option maxHeartbeats 400000 in
theorem lawR_big (kd : Int) (v : Value) (x y : Int) (us : List UInt8) (w : World) (hr : RI .u8 w v (intsOf us)) (hl : 2147483647 < us.length) (hl2 : us.length ≤ 9223372036854775807) :
    Calls Try.prog 5 #[.int .u8 kd, v, .int .i32 x, .int .u16 y] w fun e w' => e = .returned (.bool true) ∧ Below w.heap.size w w' := by
  have hS := hr.isS
  have hL := hr.len
  rw [intsOf_length] at hL
  go_enter Try.func5, Try.ntmps5
  go_wp2
  go_ret
  exact ⟨rfl, Below.refl _ _⟩

theorem Dec.figs {us : List UInt8} {m : Int} (h : Dec us m) (hm : m ≤ 1000000) : Figs us := ⟨by have := h.le; omega, h.dig⟩
theorem cut_list {us : List UInt8} {n : Nat} (h : n < us.length) : (us.take n).take (trIdx (us.take n) (us.take n).length) = rdMant us n := by
  rw [trIdx_take h, List.take_take, Nat.min_eq_left (trIdx_le us n)]; rfl

set_option maxRecDepth 100000 in
set_option maxHeartbeats 4000000 in
theorem lawR_any (kd : Int) (k : Nat) (hk : k < 3) (v : Value) (x : Int) (n : Nat) (us : List UInt8) (w : World) (hr : RI .u8 w v (intsOf us)) (hl : us.length ≤ 2147483647) (hx : -2147483648 ≤ x ∧ x ≤ 2147483647) (hn : n ≤ 65535) (hkd : 0 ≤ kd ∧ kd ≤ 255) (hkk : kd % 3 = k) :
    Calls Try.prog 5 #[.int .u8 kd, v, .int .i32 x, .int .u16 n] w fun e w' => e = .returned (.bool true) ∧ Below w.heap.size w w' := by
  have hS := hr.isS
  have hL := hr.len
  have hC := hS.le
  rw [intsOf_length] at hL
  have hC' : us.length ≤ sCap v := by omega
  obtain ⟨hx1, hx2⟩ := hx
  obtain ⟨hk1, hk2⟩ := hkd
  have h0 : decide ((2147483647 : Int) < us.length) = false := by rw [decide_eq_false_iff_not]; omega
  have Hr := Lib.hid hr
  have Hl := Lib.hid hl
  clear hr hl hC
  go_enter Try.func5, Try.ntmps5
  go_wp2_with fail
  refine (decimal_any v 800 us w Hr.out Hl.out).mono ?_
  rintro _ _ ⟨_, rfl, r, rfl, hd, rfl⟩
  cases r with
  | false =>
    go_wp2
    go_ret
    exact ⟨rfl, Below.refl _ _⟩
  | true =>
    have hD := hd rfl
    clear hd h0
    have hp := hD.pos
    have hle := hD.le
    have hF := hD.figs (by decide)
    have HF := Lib.hid hF
    clear hD hF
    have hle' : us.length ≤ 800 := by omega
    clear hle
    go_wp2_with fail
    refine (DecimalRound_any k hk v x us n w Hr.out HF.out (by omega)).mono ?_
    rintro _ w2 ⟨_, rfl, v2, rfl, r2, hb2⟩
    have R2 := Lib.hid r2
    have hs2 := r2.isS
    clear r2 hkk
    by_cases hat : us.length ≤ n
    · have cg := run_convert_S (dst := 9) R2.out sliceB Try.underlying5 Try.underlying9
      have cm := run_convert_S (dst := 9) (Hr.out.below hb2) sliceB Try.underlying5 Try.underlying9
      have e2 : rExp k us n x = x := by rw [rExp, if_pos hat]
      rw [rMant, if_pos hat] at cg
      rw [e2]
      clear e2
      go_wp2
      go_ret
      refine ⟨?_, hb2⟩
      simp
    · have hnl : n < us.length := by omega
      have c := (rb_cell Hr.out n hnl)
      obtain ⟨d, hd⟩ : ∃ d, d = (us.getD n 0).toNat := ⟨_, rfl⟩
      have e1 : us.getD n 0 = 53 ↔ d = 53 := by rw [hd]; exact ⟨fun h => by rw [h]; rfl, fun h => UInt8.toNat_inj.1 h⟩
      rw [← hd] at c
      have c2 : w2.cell? ⟨sBlk v, sOff v + n, none⟩ = some (.int .u8 d) := (hb2.cell (p := ⟨sBlk v, sOff v + n, none⟩) (World.block_lt_of_cell? w _ c)).trans c
      have E1 := Lib.hid e1
      have Hd := Lib.hid hd
      clear c hd e1
      have rt := ri_take (Hr.out.below hb2) (n := n) (by omega)
      have Rt := Lib.hid rt
      have hst := subS_isS hS (Nat.zero_le n) (show n ≤ sCap v by omega)
      clear rt
      by_cases h53 : d = 53
      · have h53' : ((d : Int) == 53) = true := by rw [beq_iff_eq]; omega
        have hge : decide ((53 : Int) ≤ d) = true := by rw [decide_eq_true_iff]; omega
        by_cases hla : n + 1 = us.length
        · have hla' : ((n : Int) + 1 == us.length) = true := by rw [beq_iff_eq]; omega
          have hsu : shouldUp us n = (decide (0 < n) && decide ((us.getD (n - 1) 0).toNat % 2 = 1)) := by rw [shouldUp, if_pos ⟨E1.out.2 h53, hla⟩]
          have Hsu := Lib.hid hsu
          clear hsu hla
          rcases (by omega : k = 0 ∨ k = 1 ∨ k = 2) with rfl | rfl | rfl
          · by_cases h00 : n = 0
            · have h0n : decide (0 < n) = false := by rw [decide_eq_false_iff_not]; omega
              have hup : ¬ (0 = 2 ∨ 0 = 0 ∧ shouldUp us n = true) := by rw [Hsu.out, h0n]; simp
              have Hup := Lib.hid hup
              clear hup h00 h53
              have em : rMant 0 us n = rdMant us n := by rw [rMant, if_neg hat, if_neg Hup.out]
              have ee : rExp 0 us n x = rdExp us n x := by rw [rExp, if_neg hat, if_neg Hup.out]
              rw [ee]
              have g2 := R2.out
              rw [em] at g2
              have G2 := Lib.hid g2
              clear em ee g2
              go_wp2_with fail
              refine (cut_any (subS v 0 n) x (us.take n) w2 Rt.out (by simp; omega)).mono ?_
              rintro _ w3 ⟨_, rfl, v3, rfl, r3, hb3⟩
              rw [cut_list hnl] at r3
              rw [trIdx_take hnl]
              have cg := run_convert_S (dst := 9) (G2.out.below hb3) sliceB Try.underlying5 Try.underlying9
              have cm := run_convert_S (dst := 9) r3 sliceB Try.underlying5 Try.underlying9
              clear r3
              go_wp2
              go_ret
              exact ⟨by simp [rdExp], hb2.trans (hb3.mono hb2.size)⟩
            · have h0n : decide (0 < n) = true := by rw [decide_eq_true_iff]; omega
              have cp := rb_cell (Hr.out.below hb2) (n - 1) (by omega)
              obtain ⟨f, hf⟩ : ∃ f, f = (us.getD (n - 1) 0).toNat := ⟨_, rfl⟩
              rw [← hf] at cp
              have hfb : f ≤ 57 := by rw [hf]; exact HF.out.all (n - 1)
              have Hf := Lib.hid hf
              clear hf
              by_cases hod : f % 2 = 1
              · have hod' : ((f : Int) % 2 == 1) = true := by rw [beq_iff_eq]; omega
                have hup : (0 = 2 ∨ 0 = 0 ∧ shouldUp us n = true) := by rw [Hsu.out, h0n, ← Hf.out, hod]; simp
                have Hup := Lib.hid hup
                clear hup hod h53
                have em : rMant 0 us n = ruMant us n := by rw [rMant, if_neg hat, if_pos Hup.out]
                have ee : rExp 0 us n x = ruExp us n x := by rw [rExp, if_neg hat, if_pos Hup.out]
                rw [ee]
                have g2 := R2.out
                rw [em] at g2
                have G2 := Lib.hid g2
                clear em ee g2
                go_wp2_with fail
                refine (cut_any (subS v 0 n) x (us.take n) w2 Rt.out (by simp; omega)).mono ?_
                rintro _ w3 ⟨_, rfl, v3, rfl, r3, hb3⟩
                have hb23 := hb2.trans (hb3.mono hb2.size)
                clear r3
                go_wp2_with fail
                refine (more_any v x us n w3 (Hr.out.below hb23) (by omega) (by omega) HF.out.all (by omega)).mono ?_
                rintro _ w4 ⟨_, rfl, v4, rfl, r4, hb4⟩
                have cg := run_convert_S (dst := 9) ((G2.out.below hb3).below hb4) sliceB Try.underlying5 Try.underlying9
                have cm := run_convert_S (dst := 9) r4 sliceB Try.underlying5 Try.underlying9
                clear r4
                go_wp2
                go_ret
                exact ⟨by simp, hb23.trans (hb4.mono hb23.size)⟩
              · have hod' : ((f : Int) % 2 == 1) = false := by rw [beq_eq_false_iff_ne]; omega
                have hup : ¬ (0 = 2 ∨ 0 = 0 ∧ shouldUp us n = true) := by rw [Hsu.out, h0n, ← Hf.out]; simpa using hod
                have Hup := Lib.hid hup
                clear hup hod h53
                have em : rMant 0 us n = rdMant us n := by rw [rMant, if_neg hat, if_neg Hup.out]
                have ee : rExp 0 us n x = rdExp us n x := by rw [rExp, if_neg hat, if_neg Hup.out]
                rw [ee]
                have g2 := R2.out
                rw [em] at g2
                have G2 := Lib.hid g2
                clear em ee g2
                go_wp2_with fail
                refine (cut_any (subS v 0 n) x (us.take n) w2 Rt.out (by simp; omega)).mono ?_
                rintro _ w3 ⟨_, rfl, v3, rfl, r3, hb3⟩
                rw [cut_list hnl] at r3
                rw [trIdx_take hnl]
                have cg := run_convert_S (dst := 9) (G2.out.below hb3) sliceB Try.underlying5 Try.underlying9
                have cm := run_convert_S (dst := 9) r3 sliceB Try.underlying5 Try.underlying9
                clear r3
                go_wp2
                go_ret
                exact ⟨by simp [rdExp], hb2.trans (hb3.mono hb2.size)⟩
          · have hup : ¬ (1 = 2 ∨ 1 = 0 ∧ shouldUp us n = true) := by simp
            have Hup := Lib.hid hup
            clear hup h53
            have em : rMant 1 us n = rdMant us n := by rw [rMant, if_neg hat, if_neg Hup.out]
            have ee : rExp 1 us n x = rdExp us n x := by rw [rExp, if_neg hat, if_neg Hup.out]
            rw [ee]
            have g2 := R2.out
            rw [em] at g2
            have G2 := Lib.hid g2
            clear em ee g2
            go_wp2_with fail
            refine (cut_any (subS v 0 n) x (us.take n) w2 Rt.out (by simp; omega)).mono ?_
            rintro _ w3 ⟨_, rfl, v3, rfl, r3, hb3⟩
            rw [cut_list hnl] at r3
            rw [trIdx_take hnl]
            have cg := run_convert_S (dst := 9) (G2.out.below hb3) sliceB Try.underlying5 Try.underlying9
            have cm := run_convert_S (dst := 9) r3 sliceB Try.underlying5 Try.underlying9
            clear r3
            go_wp2
            go_ret
            exact ⟨by simp [rdExp], hb2.trans (hb3.mono hb2.size)⟩
          · have hup : (2 = 2 ∨ 2 = 0 ∧ shouldUp us n = true) := .inl rfl
            have Hup := Lib.hid hup
            clear hup h53
            have em : rMant 2 us n = ruMant us n := by rw [rMant, if_neg hat, if_pos Hup.out]
            have ee : rExp 2 us n x = ruExp us n x := by rw [rExp, if_neg hat, if_pos Hup.out]
            rw [ee]
            have g2 := R2.out
            rw [em] at g2
            have G2 := Lib.hid g2
            clear em ee g2
            go_wp2_with fail
            refine (cut_any (subS v 0 n) x (us.take n) w2 Rt.out (by simp; omega)).mono ?_
            rintro _ w3 ⟨_, rfl, v3, rfl, r3, hb3⟩
            have hb23 := hb2.trans (hb3.mono hb2.size)
            clear r3
            go_wp2_with fail
            refine (more_any v x us n w3 (Hr.out.below hb23) (by omega) (by omega) HF.out.all (by omega)).mono ?_
            rintro _ w4 ⟨_, rfl, v4, rfl, r4, hb4⟩
            have cg := run_convert_S (dst := 9) ((G2.out.below hb3).below hb4) sliceB Try.underlying5 Try.underlying9
            have cm := run_convert_S (dst := 9) r4 sliceB Try.underlying5 Try.underlying9
            clear r4
            go_wp2
            go_ret
            exact ⟨by simp, hb23.trans (hb4.mono hb23.size)⟩
        · have hla' : ((n : Int) + 1 == us.length) = false := by rw [beq_eq_false_iff_ne]; omega
          have hsu : shouldUp us n = true := by rw [shouldUp, if_neg (fun h => hla h.2), ← Hd.out, h53]; rfl
          have Hsu := Lib.hid hsu
          clear hsu hla
          rcases (by omega : k = 0 ∨ k = 1 ∨ k = 2) with rfl | rfl | rfl
          · have hup : (0 = 2 ∨ 0 = 0 ∧ shouldUp us n = true) := .inr ⟨rfl, Hsu.out⟩
            have Hup := Lib.hid hup
            clear hup h53
            have em : rMant 0 us n = ruMant us n := by rw [rMant, if_neg hat, if_pos Hup.out]
            have ee : rExp 0 us n x = ruExp us n x := by rw [rExp, if_neg hat, if_pos Hup.out]
            rw [ee]
            have g2 := R2.out
            rw [em] at g2
            have G2 := Lib.hid g2
            clear em ee g2
            go_wp2_with fail
            refine (cut_any (subS v 0 n) x (us.take n) w2 Rt.out (by simp; omega)).mono ?_
            rintro _ w3 ⟨_, rfl, v3, rfl, r3, hb3⟩
            have hb23 := hb2.trans (hb3.mono hb2.size)
            clear r3
            go_wp2_with fail
            refine (more_any v x us n w3 (Hr.out.below hb23) (by omega) (by omega) HF.out.all (by omega)).mono ?_
            rintro _ w4 ⟨_, rfl, v4, rfl, r4, hb4⟩
            have cg := run_convert_S (dst := 9) ((G2.out.below hb3).below hb4) sliceB Try.underlying5 Try.underlying9
            have cm := run_convert_S (dst := 9) r4 sliceB Try.underlying5 Try.underlying9
            clear r4
            go_wp2
            go_ret
            exact ⟨by simp, hb23.trans (hb4.mono hb23.size)⟩
          · have hup : ¬ (1 = 2 ∨ 1 = 0 ∧ shouldUp us n = true) := by simp
            have Hup := Lib.hid hup
            clear hup h53
            have em : rMant 1 us n = rdMant us n := by rw [rMant, if_neg hat, if_neg Hup.out]
            have ee : rExp 1 us n x = rdExp us n x := by rw [rExp, if_neg hat, if_neg Hup.out]
            rw [ee]
            have g2 := R2.out
            rw [em] at g2
            have G2 := Lib.hid g2
            clear em ee g2
            go_wp2_with fail
            refine (cut_any (subS v 0 n) x (us.take n) w2 Rt.out (by simp; omega)).mono ?_
            rintro _ w3 ⟨_, rfl, v3, rfl, r3, hb3⟩
            rw [cut_list hnl] at r3
            rw [trIdx_take hnl]
            have cg := run_convert_S (dst := 9) (G2.out.below hb3) sliceB Try.underlying5 Try.underlying9
            have cm := run_convert_S (dst := 9) r3 sliceB Try.underlying5 Try.underlying9
            clear r3
            go_wp2
            go_ret
            exact ⟨by simp [rdExp], hb2.trans (hb3.mono hb2.size)⟩
          · have hup : (2 = 2 ∨ 2 = 0 ∧ shouldUp us n = true) := .inl rfl
            have Hup := Lib.hid hup
            clear hup h53
            have em : rMant 2 us n = ruMant us n := by rw [rMant, if_neg hat, if_pos Hup.out]
            have ee : rExp 2 us n x = ruExp us n x := by rw [rExp, if_neg hat, if_pos Hup.out]
            rw [ee]
            have g2 := R2.out
            rw [em] at g2
            have G2 := Lib.hid g2
            clear em ee g2
            go_wp2_with fail
            refine (cut_any (subS v 0 n) x (us.take n) w2 Rt.out (by simp; omega)).mono ?_
            rintro _ w3 ⟨_, rfl, v3, rfl, r3, hb3⟩
            have hb23 := hb2.trans (hb3.mono hb2.size)
            clear r3
            go_wp2_with fail
            refine (more_any v x us n w3 (Hr.out.below hb23) (by omega) (by omega) HF.out.all (by omega)).mono ?_
            rintro _ w4 ⟨_, rfl, v4, rfl, r4, hb4⟩
            have cg := run_convert_S (dst := 9) ((G2.out.below hb3).below hb4) sliceB Try.underlying5 Try.underlying9
            have cm := run_convert_S (dst := 9) r4 sliceB Try.underlying5 Try.underlying9
            clear r4
            go_wp2
            go_ret
            exact ⟨by simp, hb23.trans (hb4.mono hb23.size)⟩
      · have h53' : ((d : Int) == 53) = false := by rw [beq_eq_false_iff_ne]; omega
        have hsu : shouldUp us n = decide (53 ≤ d) := by rw [shouldUp, if_neg (fun h => h53 (E1.out.1 h.1)), ← Hd.out]
        have Hsu := Lib.hid hsu
        clear hsu
        by_cases hgd : 53 ≤ d
        · have hge : decide ((53 : Int) ≤ d) = true := by rw [decide_eq_true_iff]; omega
          rcases (by omega : k = 0 ∨ k = 1 ∨ k = 2) with rfl | rfl | rfl
          · have hup : (0 = 2 ∨ 0 = 0 ∧ shouldUp us n = true) := .inr ⟨rfl, by rw [Hsu.out]; simpa using hgd⟩
            have Hup := Lib.hid hup
            clear hup h53
            have em : rMant 0 us n = ruMant us n := by rw [rMant, if_neg hat, if_pos Hup.out]
            have ee : rExp 0 us n x = ruExp us n x := by rw [rExp, if_neg hat, if_pos Hup.out]
            rw [ee]
            have g2 := R2.out
            rw [em] at g2
            have G2 := Lib.hid g2
            clear em ee g2
            go_wp2_with fail
            refine (cut_any (subS v 0 n) x (us.take n) w2 Rt.out (by simp; omega)).mono ?_
            rintro _ w3 ⟨_, rfl, v3, rfl, r3, hb3⟩
            have hb23 := hb2.trans (hb3.mono hb2.size)
            clear r3
            go_wp2_with fail
            refine (more_any v x us n w3 (Hr.out.below hb23) (by omega) (by omega) HF.out.all (by omega)).mono ?_
            rintro _ w4 ⟨_, rfl, v4, rfl, r4, hb4⟩
            have cg := run_convert_S (dst := 9) ((G2.out.below hb3).below hb4) sliceB Try.underlying5 Try.underlying9
            have cm := run_convert_S (dst := 9) r4 sliceB Try.underlying5 Try.underlying9
            clear r4
            go_wp2
            go_ret
            exact ⟨by simp, hb23.trans (hb4.mono hb23.size)⟩
          · have hup : ¬ (1 = 2 ∨ 1 = 0 ∧ shouldUp us n = true) := by simp
            have Hup := Lib.hid hup
            clear hup h53
            have em : rMant 1 us n = rdMant us n := by rw [rMant, if_neg hat, if_neg Hup.out]
            have ee : rExp 1 us n x = rdExp us n x := by rw [rExp, if_neg hat, if_neg Hup.out]
            rw [ee]
            have g2 := R2.out
            rw [em] at g2
            have G2 := Lib.hid g2
            clear em ee g2
            go_wp2_with fail
            refine (cut_any (subS v 0 n) x (us.take n) w2 Rt.out (by simp; omega)).mono ?_
            rintro _ w3 ⟨_, rfl, v3, rfl, r3, hb3⟩
            rw [cut_list hnl] at r3
            rw [trIdx_take hnl]
            have cg := run_convert_S (dst := 9) (G2.out.below hb3) sliceB Try.underlying5 Try.underlying9
            have cm := run_convert_S (dst := 9) r3 sliceB Try.underlying5 Try.underlying9
            clear r3
            go_wp2
            go_ret
            exact ⟨by simp [rdExp], hb2.trans (hb3.mono hb2.size)⟩
          · have hup : (2 = 2 ∨ 2 = 0 ∧ shouldUp us n = true) := .inl rfl
            have Hup := Lib.hid hup
            clear hup h53
            have em : rMant 2 us n = ruMant us n := by rw [rMant, if_neg hat, if_pos Hup.out]
            have ee : rExp 2 us n x = ruExp us n x := by rw [rExp, if_neg hat, if_pos Hup.out]
            rw [ee]
            have g2 := R2.out
            rw [em] at g2
            have G2 := Lib.hid g2
            clear em ee g2
            go_wp2_with fail
            refine (cut_any (subS v 0 n) x (us.take n) w2 Rt.out (by simp; omega)).mono ?_
            rintro _ w3 ⟨_, rfl, v3, rfl, r3, hb3⟩
            have hb23 := hb2.trans (hb3.mono hb2.size)
            clear r3
            go_wp2_with fail
            refine (more_any v x us n w3 (Hr.out.below hb23) (by omega) (by omega) HF.out.all (by omega)).mono ?_
            rintro _ w4 ⟨_, rfl, v4, rfl, r4, hb4⟩
            have cg := run_convert_S (dst := 9) ((G2.out.below hb3).below hb4) sliceB Try.underlying5 Try.underlying9
            have cm := run_convert_S (dst := 9) r4 sliceB Try.underlying5 Try.underlying9
            clear r4
            go_wp2
            go_ret
            exact ⟨by simp, hb23.trans (hb4.mono hb23.size)⟩
        · have hge : decide ((53 : Int) ≤ d) = false := by rw [decide_eq_false_iff_not]; omega
          rcases (by omega : k = 0 ∨ k = 1 ∨ k = 2) with rfl | rfl | rfl
          · have hup : ¬ (0 = 2 ∨ 0 = 0 ∧ shouldUp us n = true) := by rw [Hsu.out]; simpa using hgd
            have Hup := Lib.hid hup
            clear hup h53
            have em : rMant 0 us n = rdMant us n := by rw [rMant, if_neg hat, if_neg Hup.out]
            have ee : rExp 0 us n x = rdExp us n x := by rw [rExp, if_neg hat, if_neg Hup.out]
            rw [ee]
            have g2 := R2.out
            rw [em] at g2
            have G2 := Lib.hid g2
            clear em ee g2
            go_wp2_with fail
            refine (cut_any (subS v 0 n) x (us.take n) w2 Rt.out (by simp; omega)).mono ?_
            rintro _ w3 ⟨_, rfl, v3, rfl, r3, hb3⟩
            rw [cut_list hnl] at r3
            rw [trIdx_take hnl]
            have cg := run_convert_S (dst := 9) (G2.out.below hb3) sliceB Try.underlying5 Try.underlying9
            have cm := run_convert_S (dst := 9) r3 sliceB Try.underlying5 Try.underlying9
            clear r3
            go_wp2
            go_ret
            exact ⟨by simp [rdExp], hb2.trans (hb3.mono hb2.size)⟩
          · have hup : ¬ (1 = 2 ∨ 1 = 0 ∧ shouldUp us n = true) := by simp
            have Hup := Lib.hid hup
            clear hup h53
            have em : rMant 1 us n = rdMant us n := by rw [rMant, if_neg hat, if_neg Hup.out]
            have ee : rExp 1 us n x = rdExp us n x := by rw [rExp, if_neg hat, if_neg Hup.out]
            rw [ee]
            have g2 := R2.out
            rw [em] at g2
            have G2 := Lib.hid g2
            clear em ee g2
            go_wp2_with fail
            refine (cut_any (subS v 0 n) x (us.take n) w2 Rt.out (by simp; omega)).mono ?_
            rintro _ w3 ⟨_, rfl, v3, rfl, r3, hb3⟩
            rw [cut_list hnl] at r3
            rw [trIdx_take hnl]
            have cg := run_convert_S (dst := 9) (G2.out.below hb3) sliceB Try.underlying5 Try.underlying9
            have cm := run_convert_S (dst := 9) r3 sliceB Try.underlying5 Try.underlying9
            clear r3
            go_wp2
            go_ret
            exact ⟨by simp [rdExp], hb2.trans (hb3.mono hb2.size)⟩
          · have hup : (2 = 2 ∨ 2 = 0 ∧ shouldUp us n = true) := .inl rfl
            have Hup := Lib.hid hup
            clear hup h53
            have em : rMant 2 us n = ruMant us n := by rw [rMant, if_neg hat, if_pos Hup.out]
            have ee : rExp 2 us n x = ruExp us n x := by rw [rExp, if_neg hat, if_pos Hup.out]
            rw [ee]
            have g2 := R2.out
            rw [em] at g2
            have G2 := Lib.hid g2
            clear em ee g2
            go_wp2_with fail
            refine (cut_any (subS v 0 n) x (us.take n) w2 Rt.out (by simp; omega)).mono ?_
            rintro _ w3 ⟨_, rfl, v3, rfl, r3, hb3⟩
            have hb23 := hb2.trans (hb3.mono hb2.size)
            clear r3
            go_wp2_with fail
            refine (more_any v x us n w3 (Hr.out.below hb23) (by omega) (by omega) HF.out.all (by omega)).mono ?_
            rintro _ w4 ⟨_, rfl, v4, rfl, r4, hb4⟩
            have cg := run_convert_S (dst := 9) ((G2.out.below hb3).below hb4) sliceB Try.underlying5 Try.underlying9
            have cm := run_convert_S (dst := 9) r4 sliceB Try.underlying5 Try.underlying9
            clear r4
            go_wp2
            go_ret
            exact ⟨by simp, hb23.trans (hb4.mono hb23.size)⟩
end Go.Proofs.Ytedmkbpfmddafaa
