/-
Texts of this proof, joined: RnJ. No condition.
-/
import Derived.Test.YtllhnjpnkmjopaaGreatDoorK13
namespace Go.Proofs.YtllhnjpnkmjopaaGreatDoor
open Go.RowKit

set_option maxRecDepth 100000 in
set_option maxHeartbeats 3200000 in
theorem round_cut (b B p m s : Nat) (a e : Int) (neg : Bool) (v : Value) (ws : List Nat) (w : World) (h : FltR w b p m a 1 neg v e) (ho : Own w B 116 v (cellsW ws)) (hd : ∀ d ∈ ws, d < 18446744073709551616)
    (htop : 2 ^ (64 * ws.length - 1) ≤ wv ws) (hpL : p < 64 * ws.length) (hl : ws.length ≤ 1000000) (hp0 : 0 < p) (hp : p ≤ 64000000) (hm : m ≤ 5) (hs : s ≤ 1) (he1 : -2147483648 ≤ e) (he2 : e < 2147483647) :
    Calls Tryz.prog 108 #[.pointer (some ⟨b, 0, none⟩), .int .u64 s] w fun e' w' => e' = .returned (.tuple #[]) ∧ RndQ (sBlk v) B b p m neg s (wv ws) (e - 64 * (ws.length : Int)) w w' := by
  have hS := ho.isS
  have hL : sLen v = ws.length := by rw [ho.len, cellsW_length]
  obtain ⟨r, hr⟩ : ∃ r, r = 64 * ws.length - p - 1 := ⟨_, rfl⟩
  obtain ⟨n, hn⟩ : ∃ n, n = (p + 63) / 64 := ⟨_, rfl⟩
  obtain ⟨t, ht⟩ : ∃ t, t = 64 * n - p := ⟨_, rfl⟩
  obtain ⟨hb, hrk, hnl, hn0, ht64, htp, hdd, hlen, hq, hlt, htop'⟩ := rnd_setup hd hp0 hpL htop hr hn ht
  obtain ⟨w1, hw1⟩ : ∃ w1, w1 = w.setCell ⟨b, 2, none⟩ (.int .i8 0) := ⟨_, rfl⟩
  have R2 := h.s2 0
  have O2 := h.own ho 2 (.int .i8 0)
  have B2 := Bel.box (i := 2) (x := .int .i8 0) (Bel.refl b (sBlk v) w)
  obtain ⟨c0, c1, c2, c3, c4, c5, c6⟩ := h.cells
  obtain ⟨f0, f1, f2, f3, f4, f5, f6⟩ := h.free
  rw [← hw1] at R2 O2 B2
  obtain ⟨L, hLw⟩ : ∃ L, L = ws.length := ⟨_, rfl⟩
  rw [← hLw] at hL hl hpL hr hnl hlen
  obtain ⟨rb, hrb⟩ : ∃ x, x = wv ws / 2 ^ r % 2 := ⟨_, rfl⟩
  have hrb1 : rb ≤ 1 := by omega
  have hrL : r < 64 * L := by omega
  have hrp : r + 1 + p = 64 * L := by omega
  have t1 : decide ((L : Int) * 64 ≤ p) = false := decide_eq_false (by omega)
  have e1 : (L : Int) * 64 - (p : Int) - 1 = (r : Int) := by omega
  have HRK := Lib.hid hrk
  have HQ := Lib.hid hq
  have HLen := Lib.hid hlen
  have HDD := Lib.hid hdd
  have HLt := Lib.hid hlt
  have HTop := Lib.hid htop'
  have HL := Lib.hid hLw
  have HD := Lib.hid hd
  have HRB := Lib.hid hrb
  have Hr := Lib.hid hr
  have Hn := Lib.hid hn
  have Ht := Lib.hid ht
  have HTP := Lib.hid htp
  have HRP := Lib.hid hrp
  have HR2 := Lib.hid R2
  have HO2 := Lib.hid O2
  have HB2 := Lib.hid B2
  have rwO := Lib.hid (O2.rw' hd)
  clear h ho hd hLw hrb hr hn ht hb hrk hq hlen hdd hlt htop htop' O2 B2 htp hrp
  go_enter Tryz.func108, Tryz.ntmps108
  go_upto_region 1 with fail
  rw [← hw1]
  clear hw1 c0 c1 c2 c3 c4 c5 c6 f0 f1 f2 f3 f4 f5 f6
  obtain ⟨c0, c1, c2, c3, c4, c5, c6⟩ := R2.cells
  obtain ⟨f0, f1, f2, f3, f4, f5, f6⟩ := R2.free
  have c3' : w1.cell? ⟨b, 3, none⟩ = some (.int .u8 1) := c3
  clear c3 R2
  go_wp2_with fail
  refine (bit_any v ws r w1 rwO.out (by rw [← HL.out]; exact hrL) (by rw [← HL.out]; omega)).mono ?_
  rintro _ _ ⟨rfl, rfl⟩
  rw [← HRB.out]
  have z1 := and1 hrb1
  go_upto_region 7 with fail
  go_cut [61] from 12 to 224 (fun x wx => x = .bool (decide (s = 0) && (decide (rb = 0) || decide (m = 0))) ∧ w1 = wx)
  case first =>
    rename_i J K h1 h2
    exact round_s7 J K _ b m s rb w1 c1 hs hrb1 h1 h2
  case rest =>
    obtain ⟨rfl, rfl⟩ := hcut
    go_upto_if 61 with fail
    go_cut [1] from 12 to 224 (fun y wx => ∃ sb : Nat, y = .int .u64 sb ∧ sb ≤ 1 ∧ (rb = 0 ∨ m = 0 → sb = sfV (wv ws) r s) ∧ w1 = wx)
    case first =>
      rename_i J K h1 h2
      exact round_s61 J K _ b m s rb r L v ws w1 c5 rwO HL hrL hl hs hrb1 _ rfl h1 h2
    case rest =>
      obtain ⟨sb, rfl, hsb, hsf, rfl⟩ := hcut
      have z2 := and1 hsb
      have e4 : ((p : Int) + 63) / 64 = (n : Int) := by have := Hn.out; omega
      have HSF := Lib.hid hsf
      clear hsf
      go_upto_if 78 with fail
      simp only [e4]
      go_cut [] from 12 to 224 (fun wx => ∃ v1, FltR wx b p m 0 1 neg v1 e ∧ Own wx B 116 v1 (cellsW (ws.drop (L - n))) ∧ sBlk v1 = sBlk v ∧ Bel b (sBlk v) w wx)
      case first =>
        rename_i J K h1 h2
        exact round_cp J K _ B b p m n L e neg v ws w w1 HR2 HO2 HB2 HD HL hnl hn0 hl HLen _ (decide_eq_decide.2 (by omega)) h1 h2 (fun _ _ _ h => by first | (cases h.1; done) | (cases h.2.1; done) | (obtain ⟨_, h3, _⟩ := h.2; cases h3)) (fun _ _ h => by first | (cases h.1; done) | (obtain ⟨_, h3, _⟩ := h; cases h3))
      case rest =>
        obtain ⟨v1, R1, O1, hbv, B1⟩ := hcut
        rw [← hbv] at B1
        obtain ⟨W, hW⟩ : ∃ W, W = ws.drop (L - n) := ⟨_, rfl⟩
        rw [← hW] at O1
        have hWl : W.length = n := by rw [hW]; exact HLen.out
        have hWd : ∀ d ∈ W, d < 18446744073709551616 := fun d hd => HD.out d (List.mem_of_mem_drop (by rw [← hW]; exact hd))
        have hLW : L - n = ws.length - n := by rw [HL.out]
        have hWq : wv W / 2 ^ t = wv ws / 2 ^ rk p (wv ws) := by rw [hW, hLW]; exact HQ.out
        have hWt : wv W < 2 ^ (64 * n) := by rw [hW, hLW]; exact HLt.out
        have hWb : 2 ^ (64 * n - 1) ≤ wv W := by rw [hW, hLW]; exact HTop.out
        have hS1 := O1.isS
        have hL1 : sLen v1 = n := by rw [O1.len, cellsW_length, hWl]
        have e6 : (n : Int) * 64 - (p : Int) = (t : Int) := by have := HTP.out; omega
        have hw2 : IntKind.u64.wrap ((2 : Int) ^ t) = ((2 ^ t : Nat) : Int) := by
          have hT64 : 2 ^ t ≤ 9223372036854775808 := Nat.pow_le_pow_right (show 0 < 2 by decide) (show t ≤ 63 by omega)
          rw [show (2 : Int) ^ t = ((2 ^ t : Nat) : Int) by simp, IntKind.wrap_u64]
          generalize 2 ^ t = T at hT64 ⊢
          omega
        obtain ⟨T, hT⟩ : ∃ T, T = 2 ^ t := ⟨_, rfl⟩
        rw [← hT] at hw2
        have z3 := or01 hrb1 hsb
        obtain ⟨ix, hix⟩ : ∃ ix, ix = !(decide (rb = 0) && decide (sb = 0)) := ⟨_, rfl⟩
        rw [← hix] at z3
        obtain ⟨k0, k1, k2, k3, k4, k5, k6⟩ := R1.cells
        obtain ⟨l0, l1, l2, l3, l4, l5, l6⟩ := R1.free
        have HR1 := Lib.hid R1
        have HO1 := Lib.hid O1
        have HB1 := Lib.hid B1
        have HWl := Lib.hid hWl
        have HWd := Lib.hid hWd
        have HWq := Lib.hid hWq
        have HWt := Lib.hid hWt
        have HWb := Lib.hid hWb
        have HT := Lib.hid hT
        have HIX := Lib.hid hix
        clear R1 O1 B1 hW hWl hWd hLW hWq hWt hWb hT hix c0 c1 c2 c3' c4 c5 c6 f0 f1 f2 f3 f4 f5 f6
        go_upto_if 113 with fail
        try simp only [e6]
        go_cut [] from 12 to 224 (fun wx => RndM (sBlk v1) B b p m neg s (wv ws) n t (e - 64 * (L : Int)) w wx)
        case first =>
          rename_i J1 K1 j1 j2
          exact round_ix J1 K1 _ B b p m n t T L r s rb sb e neg ix v1 ws W w wc HR1 HO1 HB1 HWl HWd hn0 (by omega) HWt HWb HWq HT ht64 hp0 HTP HRP he1 he2 HRK HRB HSF HIX hm hrb1 hsb j1 j2 (fun _ _ _ h => by first | (cases h.1; done) | (cases h.2.1; done) | (obtain ⟨_, h3, _⟩ := h.2; cases h3)) (fun _ _ h => by first | (cases h.1; done) | (obtain ⟨_, h3, _⟩ := h; cases h3))
        case rest =>
          obtain ⟨v3, ws3, e3, r1, r2, r3, r4, r5, r6, r6', r7⟩ := hcut
          rw [← r6'] at r7
          have hS3 := r2.isS
          have hL3 : sLen v3 = n := by rw [r2.len, cellsW_length, r3]
          have hcap : 0 < sCap v3 := by have := hS3.le; omega
          have hne : sBlk v3 ≠ b := r2.ne_row r1 (by decide) hcap
          obtain ⟨g0, g1, g2, g3, g4, g5, g6⟩ := r1.cells
          have cw := (r2.rw' r4).cell 0 (by rw [r3]; exact hn0)
          rw [Nat.add_zero] at cw
          have fz := r2.frozen hcap (sOff v3)
          have hd0 := getD_ltW r4 0
          have han := andNot_clear ht64 hd0
          have HCW := Lib.hid (clear_wv r4 (by rw [r3]; exact hn0) (show t ≤ 64 by omega))
          obtain ⟨z, hz⟩ : ∃ z, z = ws3.getD 0 0 / 2 ^ t * 2 ^ t := ⟨_, rfl⟩
          rw [← hz] at han HCW
          have O4 := r2.set (i := 0) (by rw [cellsW_length, r3]; exact hn0) (.int .u64 (z : Int))
          rw [cellsW_set, Nat.add_zero] at O4
          have R4 : FltR (wc.setCell ⟨sBlk v3, sOff v3, none⟩ (.int .u64 (z : Int))) b p m (rA p m neg s (wv ws)) 1 neg v3 e3 := (heap_setCell_other _ _ _ _ (by simpa using fun h : b = sBlk v3 => hne h.symm)).trans r1
          have B4 := Bel.far (i := sOff v3) (x := .int .u64 (z : Int)) r7
          have hzl : z < 18446744073709551616 := by rw [hz]; exact Nat.lt_of_le_of_lt (Nat.div_mul_le_self _ _) hd0
          have hTp : 0 < 2 ^ t := Nat.two_pow_pos t
          have hT1 : (T : Int) - 1 = ((2 ^ t - 1 : Nat) : Int) := by rw [HT.out]; omega
          obtain ⟨U, hU⟩ : ∃ U, U = 2 ^ t - 1 := ⟨_, rfl⟩
          rw [← hU] at han hT1
          have hwU : IntKind.u64.wrap (U : Int) = (U : Int) := by
            have hT64 : 2 ^ t ≤ 9223372036854775808 := Nat.pow_le_pow_right (show 0 < 2 by decide) (show t ≤ 63 by omega)
            rw [IntKind.wrap_u64]; omega
          obtain ⟨d0, hdd⟩ : ∃ d, d = ws3.getD 0 0 := ⟨_, rfl⟩
          rw [← hdd] at cw han hd0
          have HR4 := Lib.hid R4
          have HO4 := Lib.hid O4
          have HB4 := Lib.hid B4
          have HBV := Lib.hid (r6'.trans hbv)
          have H3 := Lib.hid r3
          have H4 := Lib.hid r4
          have H5 := Lib.hid r5
          have H6 := Lib.hid r6
          have HZ := Lib.hid hzl
          clear r1 r2 r3 r4 r5 r6 r6' r7 hne hz R4 O4 B4 hzl hTp hU hdd k0 k1 k2 k3 k4 k5 k6 z3
          go_wp2
          go_end0
          have hwv : wv (ws3.set 0 z) = wv ws3 / 2 ^ t * 2 ^ t := HCW.out
          have hlen : (ws3.set 0 z).length = n := by rw [List.length_set]; exact H3.out
          refine ⟨rfl, v3, ws3.set 0 z, e3, HR4.out, HO4.out, ⟨by rw [hlen]; exact hn0, by rw [hlen]; omega, set_lt H4.out HZ.out, ?_, ?_⟩, ?_, HBV.out, by rw [← HBV.out]; exact HB4.out⟩
          · rw [hlen, hwv]
            have h1 : 2 ^ (64 * n - 1) = 2 ^ (64 * n - 1 - t) * 2 ^ t := by rw [← Nat.pow_add]; congr 1; omega
            rw [h1]
            refine Nat.mul_le_mul_right _ ?_
            rw [Nat.le_div_iff_mul_le (Nat.two_pow_pos t), ← h1]
            exact H5.out
          · unfold Fits
            rw [hlen, hwv]
            by_cases h64 : 64 * n ≤ p
            · exact .inl h64
            · refine .inr ⟨by omega, ?_, Hn.out⟩
              rw [show 64 * n - p = t by have := HTP.out; omega]
              exact Nat.mul_mod_left _ _
          · rw [hlen, hwv, ← HL.out]; exact H6.out
end Go.Proofs.YtllhnjpnkmjopaaGreatDoor
