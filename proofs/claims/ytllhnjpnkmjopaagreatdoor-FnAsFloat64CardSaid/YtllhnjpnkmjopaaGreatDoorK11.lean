/-
Texts of this proof, joined: RnH. No condition.
-/
import Derived.Test.YtllhnjpnkmjopaaGreatDoorK10
namespace Go.Proofs.YtllhnjpnkmjopaaGreatDoor
open Go.RowKit

def IncM (u B b p m : Nat) (acc : Int) (neg : Bool) (n t : Nat) (Q : Nat) (X : Int) (w w' : World) : Prop :=
  ∃ v ws e, FltR w' b p m acc 1 neg v e ∧ Own w' B 116 v (cellsW ws) ∧ ws.length = n ∧ (∀ d ∈ ws, d < 18446744073709551616) ∧ 2 ^ (64 * n - 1) ≤ wv ws ∧ deq (wv ws / 2 ^ t * 2 ^ t) (e - 64 * (n : Int)) Q X ∧ sBlk v = u ∧ Bel b u w w'
theorem wdg_top_lt {y n : Nat} (hn : 0 < n) (hy : y < 2 ^ (64 * n - 1)) : wdg y (n - 1) < 9223372036854775808 := by
  unfold wdg
  rw [w_two]
  refine Nat.lt_of_le_of_lt (Nat.mod_le _ _) ?_
  refine Nat.div_lt_of_lt_mul ?_
  rw [show (9223372036854775808 : Nat) = 2 ^ 63 from rfl, ← Nat.pow_add, show 64 * (n - 1) + 63 = 64 * n - 1 by omega]
  exact hy
set_option maxRecDepth 100000 in
set_option maxHeartbeats 3200000 in
theorem round_inc (J K' : Act → World → Prop) (Q' : Exit → Act → World → Prop) (B b p m n t T L r : Nat) (acc e : Int) (neg inc : Bool) (v1 : Value) (W : List Nat) (w wc : World) {y1 y2 y3 y4 y5 y6 y7 y9 y12 y13 y14 y15 y16 y17 y18 y19 y20 y21 y22 y23 y24 y25 y26 y27 y28 y29 y30 y31 y32 y33 y34 y35 y36 y37 y38 y39 y40 y41 y42 y43 y44 y45 y46 y47 y48 y49 y50 y51 y52 y53 y54 y55 y56 y57 y58 y59 y60 y61 y62 y63 y64 y65 y66 y67 y68 y69 y70 y71 y72 y73 y74 y75 y76 y77 y78 y79 y80 y81 y82 y83 y84 y85 y86 y87 y88 y89 y90 y91 y92 y93 y94 y95 y96 y97 y98 y99 y100 y101 y102 y103 y104 y105 y106 y107 y108 y109 y110 y111 y112 y113 y114 y115 y116 y117 y118 y119 y120 y121 y122 y123 y124 y125 y126 y127 y128 y129 y130 y131 y132 y133 y134 y135 y136 y137 y138 y139 y140 y141 y142 y143 y144 y145 y146 y147 y148 y149 y150 y151 y152 y153 y154 y155 y156 y157 y158 y159 y160 y161 y162 y163 y164 y165 y166 y167 y168 y170 y171 y172 y173 y174 y175 y176 y177 y178 y179 y180 y181 y182 y183 y184 y185 y186 y187 y188 y189 y190 y191 y192 y193 y194 y195 y196 y197 y198 y199 y200 y201 y202 y203 y204 y205 y206 y207 y208 y209 y210 y211 y212 y213 y214 y215 y216 y217 y218 y219 y220 y221 y222 y223 y224 : Value}
    (HR1 : Hid (FltR wc b p m acc 1 neg v1 e)) (HO1 : Hid (Own wc B 116 v1 (cellsW W))) (HB1 : Hid (Bel b (sBlk v1) w wc)) (HWl : Hid (W.length = n)) (HWd : Hid (∀ d ∈ W, d < 18446744073709551616)) (hn0 : 0 < n) (hn : n ≤ 1000000)
    (HWt : Hid (wv W < 2 ^ (64 * n))) (HWb : Hid (2 ^ (64 * n - 1) ≤ wv W)) (HT : Hid (T = 2 ^ t)) (ht64 : t < 64) (hp0 : 0 < p) (HTP : Hid (t + p = 64 * n)) (HRP : Hid (r + 1 + p = 64 * L)) (he1 : -2147483648 ≤ e) (he2 : e < 2147483647)
    (Rel : World → Prop) (hRel : ∀ w', IncM (sBlk v1) B b p m acc neg n t (wv W / 2 ^ t + if inc then 1 else 0) (e - 64 * (L : Int) + ((r + 1 : Nat) : Int)) w w' → Rel w')
    (hJ : ∀ a' w', (∃ u11 u12 u13 u14 u15 u16 u17 u18 u19 u20 u21 u22 u23 u24 u25 u26 u27 u28 u29 u30 u31 u32 u33 u34 u35 u36 u37 u38 u39 u40 u41 u42 u43 u44 u45 u46 u47 u48 u49 u50 u51 u52 u53 u54 u55 u56 u57 u58 u59 u60 u61 u62 u63 u64 u65 u66 u67 u68 u69 u70 u71 u72 u73 u74 u75 u76 u77 u78 u79 u80 u81 u82 u83 u84 u85 u86 u87 u88 u89 u90 u91 u92 u93 u94 u95 u96 u97 u98 u99 u100 u101 u102 u103 u104 u105 u106 u107 u108 u109 u110 u111 u112 u113 u114 u115 u116 u117 u118 u119 u120 u121 u122 u123 u124 u125 u126 u127 u128 u129 u130 u131 u132 u133 u134 u135 u136 u137 u138 u139 u140 u141 u142 u143 u144 u145 u146 u147 u148 u149 u150 u151 u152 u153 u154 u155 u156 u157 u158 u159 u160 u161 u162 u163 u164 u165 u166 u167 u168 u169 u170 u171 u172 u173 u174 u175 u176 u177 u178 u179 u180 u181 u182 u183 u184 u185 u186 u187 u188 u189 u190 u191 u192 u193 u194 u195 u196 u197 u198 u199 u200 u201 u202 u203 u204 u205 u206 u207 u208 u209 u210 u211 u212 u213 u214 u215 u216 u217 u218 u219 u220 u221 u222 u223 u224 : Value, Rel w' ∧ a' = { tmps := #[.pointer (some ⟨b, 0, none⟩), y1, y2, y3, y4, y5, y6, y7, .int .u32 n, y9, .int .u64 T, u11, u12, u13, u14, u15, u16, u17, u18, u19, u20, u21, u22, u23, u24, u25, u26, u27, u28, u29, u30, u31, u32, u33, u34, u35, u36, u37, u38, u39, u40, u41, u42, u43, u44, u45, u46, u47, u48, u49, u50, u51, u52, u53, u54, u55, u56, u57, u58, u59, u60, u61, u62, u63, u64, u65, u66, u67, u68, u69, u70, u71, u72, u73, u74, u75, u76, u77, u78, u79, u80, u81, u82, u83, u84, u85, u86, u87, u88, u89, u90, u91, u92, u93, u94, u95, u96, u97, u98, u99, u100, u101, u102, u103, u104, u105, u106, u107, u108, u109, u110, u111, u112, u113, u114, u115, u116, u117, u118, u119, u120, u121, u122, u123, u124, u125, u126, u127, u128, u129, u130, u131, u132, u133, u134, u135, u136, u137, u138, u139, u140, u141, u142, u143, u144, u145, u146, u147, u148, u149, u150, u151, u152, u153, u154, u155, u156, u157, u158, u159, u160, u161, u162, u163, u164, u165, u166, u167, u168, u169, u170, u171, u172, u173, u174, u175, u176, u177, u178, u179, u180, u181, u182, u183, u184, u185, u186, u187, u188, u189, u190, u191, u192, u193, u194, u195, u196, u197, u198, u199, u200, u201, u202, u203, u204, u205, u206, u207, u208, u209, u210, u211, u212, u213, u214, u215, u216, u217, u218, u219, u220, u221, u222, u223, u224], defers := [] }) → J a' w')
    (hK : ∀ a' w', Met J a' w' → K' a' w') (hQp : ∀ ch a w, ¬ Q' (Exit.panic ch) a w) (hQo : ∀ a w, ¬ Q' Exit.outgrown a w) :
    Code.wp Tryz.prog (nav [2, 2, 2, 2, 2, 2, 2, 2, 2, 2, 2, 2, 2, 1, 2, 3, 2, 2, 2, 2] (fbody Tryz.f108)) (Exit.then K' Q') { tmps := #[.pointer (some ⟨b, 0, none⟩), y1, y2, y3, y4, y5, y6, y7, .int .u32 n, y9, .int .u64 T, .bool inc, y12, y13, y14, y15, y16, y17, y18, y19, y20, y21, y22, y23, y24, y25, y26, y27, y28, y29, y30, y31, y32, y33, y34, y35, y36, y37, y38, y39, y40, y41, y42, y43, y44, y45, y46, y47, y48, y49, y50, y51, y52, y53, y54, y55, y56, y57, y58, y59, y60, y61, y62, y63, y64, y65, y66, y67, y68, y69, y70, y71, y72, y73, y74, y75, y76, y77, y78, y79, y80, y81, y82, y83, y84, y85, y86, y87, y88, y89, y90, y91, y92, y93, y94, y95, y96, y97, y98, y99, y100, y101, y102, y103, y104, y105, y106, y107, y108, y109, y110, y111, y112, y113, y114, y115, y116, y117, y118, y119, y120, y121, y122, y123, y124, y125, y126, y127, y128, y129, y130, y131, y132, y133, y134, y135, y136, y137, y138, y139, y140, y141, y142, y143, y144, y145, y146, y147, y148, y149, y150, y151, y152, y153, y154, y155, y156, y157, y158, y159, y160, y161, y162, y163, y164, y165, y166, y167, y168, .bool inc, y170, y171, y172, y173, y174, y175, y176, y177, y178, y179, y180, y181, y182, y183, y184, y185, y186, y187, y188, y189, y190, y191, y192, y193, y194, y195, y196, y197, y198, y199, y200, y201, y202, y203, y204, y205, y206, y207, y208, y209, y210, y211, y212, y213, y214, y215, y216, y217, y218, y219, y220, y221, y222, y223, y224], defers := [] } wc := by
  have hS1 := HO1.out.isS
  have hL1 : sLen v1 = n := by rw [HO1.out.len, cellsW_length, HWl.out]
  obtain ⟨k0, k1, k2, k3, k4, k5, k6⟩ := HR1.out.cells
  obtain ⟨l0, l1, l2, l3, l4, l5, l6⟩ := HR1.out.free
  simp only [nav, fbody, Tryz.f108, Option.getD_some]
  cases inc with
  | false =>
    go_wp2_with fail
    go_meet
    apply hRel
    exact ⟨v1, W, e, HR1.out, HO1.out, HWl.out, HWd.out, HWb.out, fin_a (by simp) HTP.out HRP.out, rfl, HB1.out⟩
  | true =>
    have hcap : 0 < sCap v1 := by have := hS1.le; omega
    have hne : sBlk v1 ≠ b := HO1.out.ne_row HR1.out (by decide) hcap
    have hTp : Hid (0 < T) := Lib.hid (by rw [HT.out]; exact Nat.two_pow_pos t)
    have hTl : Hid (T ≤ 9223372036854775808) := Lib.hid (by rw [HT.out]; exact Nat.pow_le_pow_right (show 0 < 2 by decide) (show t ≤ 63 by omega))
    have hTT : Hid (T * 2 ^ p = 2 ^ (64 * n)) := Lib.hid (by rw [HT.out, ← Nat.pow_add, HTP.out])
    go_wp2_with fail
    (refine wp_region_hoist 9 (by kernel_rfl) (by kernel_rfl) ⟨fun _ _ _ h => (by first | exact (hQp _ _ _ h).elim | cases h.2.1 | (obtain ⟨_, h3, _⟩ := h.2; cases h3)), fun _ _ h => (by first | exact (hQo _ _ h).elim | cases h.1 | (obtain ⟨_, h3, _⟩ := h; cases h3))⟩ ?_; simp only [List.take_succ_cons, List.take_zero, List.drop_succ_cons, List.drop_zero]; (repeat (go_big_quiet_step (fail))); refine wpQuiet_nil ?_; rintro _ ⟨nq, rfl⟩)
    go_wp2_with fail
    refine (addVW_any v1 W T B _ (HO1.out.drewN nq) HWd.out (by rw [HWl.out]; exact hn0) (by rw [HWl.out]; omega) (by have := hTl.out; omega)).mono ?_
    rintro _ w5 ⟨c, rfl, os, ho, hol, hod, hov, hb, hon⟩
    dsimp only
    rw [HWl.out] at hol hov
    rw [w_two] at hov
    have R5 : FltR w5 b p m acc 1 neg v1 e := (hon b HR1.out.lt hne.symm).trans HR1.out
    have B5 : Bel b (sBlk v1) w w5 := HB1.out.trans (bel_only hb hon)
    have hc1 : c ≤ 1 := by
      refine Nat.le_of_not_lt fun hc => ?_
      have h1 := Nat.mul_le_mul_left (2 ^ (64 * n)) hc
      have h2 := HWt.out
      have h3 : T ≤ 2 ^ (64 * n) := by rw [← hTT.out]; exact Nat.le_mul_of_pos_right _ (Nat.two_pow_pos p)
      omega
    have HR5 := Lib.hid R5
    have HO5 := Lib.hid ho
    have HB5 := Lib.hid B5
    have Hol := Lib.hid hol
    have Hod := Lib.hid hod
    clear ho hb hon hol hod B5 k0 k1 k2 k3 k4 k5 k6 l0 l1 l2 l3 l4 l5 l6
    obtain ⟨k0, k1, k2, k3, k4, k5, k6⟩ := R5.cells
    obtain ⟨l0, l1, l2, l3, l4, l5, l6⟩ := R5.free
    clear R5
    have HV0 := Lib.hid hov
    obtain ⟨cb, hcb⟩ : ∃ cb, cb = decide (c ≠ 0) := ⟨_, rfl⟩
    have q0 : ((c : Int) != 0) = cb := by rw [hcb]; rcases (by omega : c = 0 ∨ c = 1) with h | h <;> rw [h] <;> rfl
    have HCB := Lib.hid hcb
    clear hov hcb
    go_upto_if 180 with fail
    cases cb with
    | false =>
      go_wp2_with fail
      go_meet
      have hV := HV0.out
      have hc0 : c = 0 := by have := HCB.out; simp at this; exact this
      rw [hc0, Nat.mul_zero, Nat.add_zero] at hV
      apply hRel
      refine ⟨v1, os, e, HR5.out, HO5.out, Hol.out, Hod.out, by have := HWb.out; omega, fin_a ?_ HTP.out HRP.out, rfl, HB5.out⟩
      rw [hV, HT.out, Nat.add_div_right _ (Nat.two_pow_pos t)]; rfl
    | true =>
      have HV : Hid (wv os + 2 ^ (64 * n) = wv W + T) := Lib.hid (by
        have h1 : c ≠ 0 := by have := HCB.out; simp at this; exact this
        have h2 := HV0.out
        rw [show c = 1 by omega, Nat.mul_one] at h2; exact h2)
      have hov := HV.out
      have hx : wv os < T ∧ wv W / T + 1 = 2 ^ p := by
        have h1 := HWt.out
        have h2 := hTT.out
        have h3 := hTp.out
        have h4 : wv W / T < 2 ^ p := Nat.div_lt_of_lt_mul (by rw [h2]; exact h1)
        have h5 : 2 ^ p ≤ (wv W + T) / T := by rw [Nat.le_div_iff_mul_le h3, Nat.mul_comm, h2]; omega
        rw [Nat.add_div_right _ h3] at h5
        have h6 : wv W / T + 1 = 2 ^ p := by omega
        refine ⟨?_, h6⟩
        have h7 := Nat.div_add_mod (wv W) T
        have h8 := Nat.mod_lt (wv W) h3
        have h9 : T * (wv W / T) + T = 2 ^ (64 * n) := by rw [← h2, ← h6, Nat.mul_succ]
        omega
      have HX := Lib.hid hx
      have q1 : decide ((2147483647 : Int) ≤ e) = false := decide_eq_false (by omega)
      have R6 := HR5.out.s6 (e + 1)
      have O6 := Lib.hid (HR5.out.own HO5.out 6 (.int .i32 (e + 1)))
      have B6 := Lib.hid (Bel.box (i := 6) (x := .int .i32 (e + 1)) HB5.out)
      have HR6 := Lib.hid R6
      obtain ⟨m0, m1, m2, m3, m4, m5, m6⟩ := R6.cells
      clear hov hx R6
      go_wp2_with fail
      (refine wp_region_hoist 8 (by kernel_rfl) (by kernel_rfl) ⟨fun _ _ _ h => (by first | exact (hQp _ _ _ h).elim | cases h.2.1 | (obtain ⟨_, h3, _⟩ := h.2; cases h3)), fun _ _ h => (by first | exact (hQo _ _ h).elim | cases h.1 | (obtain ⟨_, h3, _⟩ := h; cases h3))⟩ ?_; simp only [List.take_succ_cons, List.take_zero, List.drop_succ_cons, List.drop_zero]; (repeat (go_big_quiet_step (fail))); refine wpQuiet_nil ?_; rintro _ ⟨nq, rfl⟩)
      go_wp2_with fail
      have hcall := rshVU_any v1 v1 os os (wv os) 1 B _ (O6.out.drewN nq) Hod.out ((O6.out.drewN nq).rw' Hod.out) rfl rfl (fun _ => Nat.le_refl _) (by rw [Hol.out]; exact hn0) (by rw [Hol.out]; omega) (by decide) (by decide)
      rw [show ((1 : Nat) : Int) = 1 from rfl] at hcall
      refine hcall.mono ?_
      rintro _ w7 ⟨c', rfl, ho7, hb7, hon7⟩
      dsimp only
      rw [Hol.out, Nat.pow_one] at ho7
      have hR7 : FltR w7 b p m acc 1 neg v1 (e + 1) := (hon7 b HR6.out.lt hne.symm).trans HR6.out
      have hB7 : Bel b (sBlk v1) w w7 := B6.out.trans (bel_only hb7 hon7)
      obtain ⟨y, hy⟩ : ∃ y, y = wv os / 2 := ⟨_, rfl⟩
      rw [← hy] at ho7
      have hyT : y < T := by have := HX.out.1; omega
      have hyl : y < 2 ^ (64 * n - 1) := by
        have h1 : T ≤ 2 ^ (64 * n - 1) := by rw [HT.out]; have := HTP.out; exact Nat.pow_le_pow_right (by decide) (by omega)
        omega
      obtain ⟨k, hk⟩ : ∃ k, k = n - 1 := ⟨_, rfl⟩
      have hkn : k < n := by omega
      have e7 : (n : Int) - 1 = (k : Int) := by omega
      have cw := (ho7.rw' wdsN_lt).cell k (by rw [wdsN_length]; exact hkn)
      rw [wdsN_getD hkn] at cw
      have hdk : wdg y k < 9223372036854775808 := by rw [hk]; exact wdg_top_lt hn0 hyl
      obtain ⟨d, hd⟩ : ∃ d, d = wdg y k := ⟨_, rfl⟩
      rw [← hd] at cw hdk
      have hor := or_msb hdk
      obtain ⟨z, hz⟩ : ∃ z, z = d + 9223372036854775808 := ⟨_, rfl⟩
      rw [← hz] at hor
      have fz := ho7.frozen hcap (sOff v1 + k)
      have O8 := ho7.set (i := k) (by rw [cellsW_length, wdsN_length]; exact hkn) (.int .u64 (z : Int))
      rw [cellsW_set] at O8
      have R8 : FltR (w7.setCell ⟨sBlk v1, sOff v1 + k, none⟩ (.int .u64 (z : Int))) b p m acc 1 neg v1 (e + 1) := (heap_setCell_other _ _ _ _ (by simpa using fun h : b = sBlk v1 => hne h.symm)).trans hR7
      have B8 := Bel.far (i := sOff v1 + k) (x := .int .u64 (z : Int)) hB7
      have HWV : Hid (wv ((wdsN y n).set k z) = 2 ^ (64 * n - 1) + y) := Lib.hid (by
        have h1 := wset (ws := wdsN y n) (i := k) (by rw [wdsN_length]; exact hkn) z
        rw [wdsN_getD hkn, ← hd, wdsN_wv, Nat.mod_eq_of_lt (by rw [w_two]; exact Nat.lt_of_lt_of_le hyl (Nat.pow_le_pow_right (by decide) (by omega)))] at h1
        have h2 : 18446744073709551616 ^ k * 9223372036854775808 = 2 ^ (64 * n - 1) := by
          rw [w_two, show (9223372036854775808 : Nat) = 2 ^ 63 from rfl, ← Nat.pow_add]; congr 1; omega
        have h3 : 18446744073709551616 ^ k * z = 18446744073709551616 ^ k * d + 2 ^ (64 * n - 1) := by rw [hz, Nat.mul_add, h2]
        omega)
      have HR8 := Lib.hid R8
      have HO8 := Lib.hid O8
      have HB8 := Lib.hid B8
      have HZ : Hid (z < 18446744073709551616) := Lib.hid (by omega)
      have HY := Lib.hid hyT
      obtain ⟨r0, r1, r2, r3, r4, r5, r6⟩ := hR7.cells
      clear hcall ho7 hb7 hon7 hB7 hy hyT hyl hd hz O8 R8 B8 hk hR7 k0 k1 k2 k3 k4 k5 k6 l0 l1 l2 l3 l4 l5 l6 m0 m1 m2 m3 m4 m5 m6
      go_wp2_with fail
      go_meet
      apply hRel
      refine ⟨v1, _, (e + 1), HR8.out, HO8.out, by rw [List.length_set, wdsN_length], set_lt wdsN_lt HZ.out, by rw [HWV.out]; omega, ?_, rfl, HB8.out⟩
      rw [HWV.out]
      have h5 : wv W / 2 ^ t + 1 = 2 ^ p := by rw [← HT.out]; exact HX.out.2
      simp only [if_true]
      rw [h5]
      exact fin_b (by rw [← HT.out]; exact HY.out) hn0 hp0 HTP.out HRP.out
end Go.Proofs.YtllhnjpnkmjopaaGreatDoor
