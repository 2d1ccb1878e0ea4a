/-
Texts of this proof, joined: RnK. No condition.
-/
import Derived.Test.YtllhnjpnkmjopaaGreatDoorK12
namespace Go.Proofs.YtllhnjpnkmjopaaGreatDoor
open Go.RowKit

set_option maxRecDepth 100000 in
set_option maxHeartbeats 3200000 in
theorem round_ix (J1 K1 : Act → World → Prop) (Q' : Exit → Act → World → Prop) (B b p m n t T L r s rb sb : Nat) (e : Int) (neg ix : Bool) (v1 : Value) (ws W : List Nat) (w wc : World)
    (HR1 : Hid (FltR wc b p m 0 1 neg v1 e)) (HO1 : Hid (Own wc B 116 v1 (cellsW W))) (HB1 : Hid (Bel b (sBlk v1) w wc)) (HWl : Hid (W.length = n)) (HWd : Hid (∀ d ∈ W, d < 18446744073709551616)) (hn0 : 0 < n) (hnm : n ≤ 1000000)
    (HWt : Hid (wv W < 2 ^ (64 * n))) (HWb : Hid (2 ^ (64 * n - 1) ≤ wv W)) (HWq : Hid (wv W / 2 ^ t = wv ws / 2 ^ rk p (wv ws))) (HT : Hid (T = 2 ^ t)) (ht64 : t < 64) (hp0 : 0 < p) (HTP : Hid (t + p = 64 * n)) (HRP : Hid (r + 1 + p = 64 * L)) (he1 : -2147483648 ≤ e) (he2 : e < 2147483647)
    (HRK : Hid (rk p (wv ws) = r + 1)) (HRB : Hid (rb = wv ws / 2 ^ r % 2)) (HSF : Hid (rb = 0 ∨ m = 0 → sb = sfV (wv ws) r s)) (HIX : Hid (ix = !(decide (rb = 0) && decide (sb = 0)))) (hm : m ≤ 5) (hrb1 : rb ≤ 1) (hsb : sb ≤ 1)
    {y2 y3 y4 y5 y6 y9 y11 y12 y13 y14 y15 y16 y17 y18 y19 y20 y21 y22 y23 y24 y25 y26 y27 y28 y29 y30 y31 y32 y33 y34 y35 y36 y37 y38 y39 y40 y41 y42 y43 y44 y45 y46 y47 y48 y49 y50 y51 y52 y53 y54 y55 y56 y57 y58 y59 y60 y61 y62 y63 y64 y65 y66 y67 y68 y69 y70 y71 y72 y73 y74 y75 y76 y77 y78 y79 y80 y81 y82 y83 y84 y85 y86 y87 y88 y89 y90 y91 y92 y93 y94 y95 y96 y97 y98 y99 y100 y101 y102 y103 y104 y105 y106 y107 y108 y109 y110 y111 y112 y114 y115 y116 y117 y118 y119 y120 y121 y122 y123 y124 y125 y126 y127 y128 y129 y130 y131 y132 y133 y134 y135 y136 y137 y138 y139 y140 y141 y142 y143 y144 y145 y146 y147 y148 y149 y150 y151 y152 y153 y154 y155 y156 y157 y158 y159 y160 y161 y162 y163 y164 y165 y166 y167 y168 y169 y170 y171 y172 y173 y174 y175 y176 y177 y178 y179 y180 y181 y182 y183 y184 y185 y186 y187 y188 y189 y190 y191 y192 y193 y194 y195 y196 y197 y198 y199 y200 y201 y202 y203 y204 y205 y206 y207 y208 y209 y210 y211 y212 y213 y214 y215 y216 y217 y218 y219 y220 y221 y222 y223 y224 : Value}
    (j1 : ∀ a' w', (∃ u11 u12 u13 u14 u15 u16 u17 u18 u19 u20 u21 u22 u23 u24 u25 u26 u27 u28 u29 u30 u31 u32 u33 u34 u35 u36 u37 u38 u39 u40 u41 u42 u43 u44 u45 u46 u47 u48 u49 u50 u51 u52 u53 u54 u55 u56 u57 u58 u59 u60 u61 u62 u63 u64 u65 u66 u67 u68 u69 u70 u71 u72 u73 u74 u75 u76 u77 u78 u79 u80 u81 u82 u83 u84 u85 u86 u87 u88 u89 u90 u91 u92 u93 u94 u95 u96 u97 u98 u99 u100 u101 u102 u103 u104 u105 u106 u107 u108 u109 u110 u111 u112 u113 u114 u115 u116 u117 u118 u119 u120 u121 u122 u123 u124 u125 u126 u127 u128 u129 u130 u131 u132 u133 u134 u135 u136 u137 u138 u139 u140 u141 u142 u143 u144 u145 u146 u147 u148 u149 u150 u151 u152 u153 u154 u155 u156 u157 u158 u159 u160 u161 u162 u163 u164 u165 u166 u167 u168 u169 u170 u171 u172 u173 u174 u175 u176 u177 u178 u179 u180 u181 u182 u183 u184 u185 u186 u187 u188 u189 u190 u191 u192 u193 u194 u195 u196 u197 u198 u199 u200 u201 u202 u203 u204 u205 u206 u207 u208 u209 u210 u211 u212 u213 u214 u215 u216 u217 u218 u219 u220 u221 u222 u223 u224 : Value, RndM (sBlk v1) B b p m neg s (wv ws) n t (e - 64 * (L : Int)) w w' ∧ a' = { tmps := #[.pointer (some ⟨b, 0, none⟩), .int .u64 sb, y2, y3, y4, y5, y6, .int .u64 rb, .int .u32 n, y9, .int .u64 T, u11, u12, u13, u14, u15, u16, u17, u18, u19, u20, u21, u22, u23, u24, u25, u26, u27, u28, u29, u30, u31, u32, u33, u34, u35, u36, u37, u38, u39, u40, u41, u42, u43, u44, u45, u46, u47, u48, u49, u50, u51, u52, u53, u54, u55, u56, u57, u58, u59, u60, u61, u62, u63, u64, u65, u66, u67, u68, u69, u70, u71, u72, u73, u74, u75, u76, u77, u78, u79, u80, u81, u82, u83, u84, u85, u86, u87, u88, u89, u90, u91, u92, u93, u94, u95, u96, u97, u98, u99, u100, u101, u102, u103, u104, u105, u106, u107, u108, u109, u110, u111, u112, u113, u114, u115, u116, u117, u118, u119, u120, u121, u122, u123, u124, u125, u126, u127, u128, u129, u130, u131, u132, u133, u134, u135, u136, u137, u138, u139, u140, u141, u142, u143, u144, u145, u146, u147, u148, u149, u150, u151, u152, u153, u154, u155, u156, u157, u158, u159, u160, u161, u162, u163, u164, u165, u166, u167, u168, u169, u170, u171, u172, u173, u174, u175, u176, u177, u178, u179, u180, u181, u182, u183, u184, u185, u186, u187, u188, u189, u190, u191, u192, u193, u194, u195, u196, u197, u198, u199, u200, u201, u202, u203, u204, u205, u206, u207, u208, u209, u210, u211, u212, u213, u214, u215, u216, u217, u218, u219, u220, u221, u222, u223, u224], defers := [] }) → J1 a' w')
    (j2 : ∀ a' w', Met J1 a' w' → K1 a' w') (hQp : ∀ ch a w, ¬ Q' (Exit.panic ch) a w) (hQo : ∀ a w, ¬ Q' Exit.outgrown a w) :
    Code.wp Tryz.prog (nav [2, 2, 2, 2, 2, 2, 2, 2, 2, 2, 2, 2, 2, 1, 2] (fbody Tryz.f108)) (Exit.then K1 Q') { tmps := #[.pointer (some ⟨b, 0, none⟩), .int .u64 sb, y2, y3, y4, y5, y6, .int .u64 rb, .int .u32 n, y9, .int .u64 T, y11, y12, y13, y14, y15, y16, y17, y18, y19, y20, y21, y22, y23, y24, y25, y26, y27, y28, y29, y30, y31, y32, y33, y34, y35, y36, y37, y38, y39, y40, y41, y42, y43, y44, y45, y46, y47, y48, y49, y50, y51, y52, y53, y54, y55, y56, y57, y58, y59, y60, y61, y62, y63, y64, y65, y66, y67, y68, y69, y70, y71, y72, y73, y74, y75, y76, y77, y78, y79, y80, y81, y82, y83, y84, y85, y86, y87, y88, y89, y90, y91, y92, y93, y94, y95, y96, y97, y98, y99, y100, y101, y102, y103, y104, y105, y106, y107, y108, y109, y110, y111, y112, .bool ix, y114, y115, y116, y117, y118, y119, y120, y121, y122, y123, y124, y125, y126, y127, y128, y129, y130, y131, y132, y133, y134, y135, y136, y137, y138, y139, y140, y141, y142, y143, y144, y145, y146, y147, y148, y149, y150, y151, y152, y153, y154, y155, y156, y157, y158, y159, y160, y161, y162, y163, y164, y165, y166, y167, y168, y169, y170, y171, y172, y173, y174, y175, y176, y177, y178, y179, y180, y181, y182, y183, y184, y185, y186, y187, y188, y189, y190, y191, y192, y193, y194, y195, y196, y197, y198, y199, y200, y201, y202, y203, y204, y205, y206, y207, y208, y209, y210, y211, y212, y213, y214, y215, y216, y217, y218, y219, y220, y221, y222, y223, y224], defers := [] } wc := by
  have hS1 := HO1.out.isS
  have hL1 : sLen v1 = n := by rw [HO1.out.len, cellsW_length, HWl.out]
  obtain ⟨k0, k1, k2, k3, k4, k5, k6⟩ := HR1.out.cells
  obtain ⟨l0, l1, l2, l3, l4, l5, l6⟩ := HR1.out.free
  simp only [nav, fbody, Tryz.f108, Option.getD_some]
  have HRL : Hid (rL p s (wv ws) = lefV rb (sfV (wv ws) r s)) := Lib.hid (by unfold rL; rw [HRK.out, lef_bits, ← HRB.out])
  cases ix with
  | false =>
    go_wp2_with fail
    go_meet
    have h0 : rb = 0 ∧ sb = 0 := by have := HIX.out; simp at this; exact this
    have hl0 : rL p s (wv ws) = 0 := by rw [HRL.out]; exact lefV_zero HSF.out h0.1 h0.2
    have hu : rU p m neg s (wv ws) = false := by unfold rU; rw [hl0]; exact awy_zero _ _ _
    refine ⟨v1, W, e, ?_, HO1.out, HWl.out, HWd.out, HWb.out, ?_, rfl, HB1.out⟩
    · rw [show rA p m neg s (wv ws) = 0 by unfold rA; rw [if_pos hl0]]; exact HR1.out
    · rw [HRK.out]
      exact fin_a (by rw [HWq.out]; unfold rQ; rw [hu]; simp) HTP.out HRP.out
  | true =>
    have h0 : ¬ (rb = 0 ∧ sb = 0) := by have := HIX.out; simp at this; omega
    obtain ⟨odd, hodd⟩ : ∃ o, o = decide (wv W / 2 ^ t % 2 = 1) := ⟨_, rfl⟩
    have hrl : rL p s (wv ws) ≠ 0 := by rw [HRL.out]; exact lefV_pos hrb1 HSF.out h0
    have hu : rU p m neg s (wv ws) = incV m neg rb sb odd := by
      unfold rU; rw [HRL.out, ← HWq.out, ← hodd]; exact incV_eq neg odd hm hrb1 (sfV_le _ _ _) HSF.out h0
    have HU := Lib.hid hu
    have HRL0 := Lib.hid hrl
    have HOD := Lib.hid hodd
    clear hu hrl hodd h0
    have cw := (HO1.out.rw' HWd.out).cell 0 (by rw [HWl.out]; exact hn0)
    rw [Nat.add_zero] at cw
    have hg0 := getD_ltW HWd.out 0
    have hal := and_lsb ht64 hg0
    rw [← HT.out] at hal
    have hod2 : (((W.getD 0 0 / T % 2 * T : Nat) : Int) != 0) = odd := by
      have hx : W.getD 0 0 = wv W % 18446744073709551616 := by rw [← wv_dig HWd.out 0, wdg_zero_eq]
      have hy : W.getD 0 0 / T % 2 = wv W / 2 ^ t % 2 := by
        rw [hx, HT.out, show (18446744073709551616 : Nat) = 2 ^ t * 2 ^ (64 - t) by rw [Nat.mul_comm, word_split (by omega)], Nat.mod_mul_right_div_self]
        exact Nat.mod_mod_of_dvd _ ⟨2 ^ (63 - t), by rw [← Nat.pow_succ']; congr 1; omega⟩
      have hTp : 0 < T := by rw [HT.out]; exact Nat.two_pow_pos t
      rw [hy, HOD.out]
      rcases (by omega : wv W / 2 ^ t % 2 = 0 ∨ wv W / 2 ^ t % 2 = 1) with h | h <;> rw [h]
      · simp
      · simp; omega
    obtain ⟨g, hg⟩ : ∃ g, g = W.getD 0 0 / T % 2 * T := ⟨_, rfl⟩
    rw [← hg] at hal hod2
    obtain ⟨d0, hd0⟩ : ∃ d, d = W.getD 0 0 := ⟨_, rfl⟩
    rw [← hd0] at cw hal
    clear hg hd0 hg0
    go_upto_block 0 with fail
    go_cut [11] from 12 to 224 (fun x wx => x = .bool (incV m neg rb sb odd) ∧ wc = wx)
    case first =>
      rename_i J K' h1 h2
      exact round_mode J K' _ b m rb sb T d0 g neg odd v1 wc k4 k5 cw hS1 n hn0 hL1 hal hod2 hm hrb1 hsb h1 h2
    case rest =>
      obtain ⟨rfl, rfl⟩ := hcut
      obtain ⟨inc, hinc⟩ : ∃ i, i = incV m neg rb sb odd := ⟨_, rfl⟩
      rw [← hinc]
      have HI := Lib.hid hinc
      clear hinc cw hod2 hal
      obtain ⟨acc, hacc⟩ : ∃ x, x = rA p m neg s (wv ws) := ⟨_, rfl⟩
      have hai : acc = if (!(inc == neg)) then 1 else -1 := by
        rw [hacc, HI.out]; unfold rA; rw [if_neg HRL0.out, HU.out]; rfl
      have R2 := Lib.hid (HR1.out.s2 acc)
      have O2 := Lib.hid (HR1.out.own HO1.out 2 (.int .i8 acc))
      have B2 := Lib.hid (Bel.box (i := 2) (x := .int .i8 acc) HB1.out)
      have HA := Lib.hid hacc
      have HAI := Lib.hid hai
      clear hacc hai
      go_wp2_with fail
      refine (makeAcc_is (!(inc == neg)) acc wc HAI.out).mono ?_
      rintro _ _ ⟨rfl, rfl⟩
      dsimp only
      go_upto_if 169 with fail
      refine round_inc J1 K1 _ B b p m n t T L r acc e neg inc v1 W w _ R2 O2 B2 HWl HWd hn0 (by omega) HWt HWb HT ht64 hp0 HTP HRP he1 he2 (fun w' => RndM (sBlk v1) B b p m neg s (wv ws) n t (e - 64 * (L : Int)) w w') ?_ j1 j2 ?_ ?_
      · rintro w' ⟨v3, ws3, e3, r1, r2, r3, r4, r5, r6, r6', r7⟩
        refine ⟨v3, ws3, e3, by rw [← HA.out]; exact r1, r2, r3, r4, r5, ?_, r6', r7⟩
        rw [HRK.out]
        have : rQ p m neg s (wv ws) = wv W / 2 ^ t + if inc then 1 else 0 := by unfold rQ; rw [HU.out, ← HI.out, HWq.out]
        rw [this]; exact r6
      · exact hQp
      · exact hQo
end Go.Proofs.YtllhnjpnkmjopaaGreatDoor
