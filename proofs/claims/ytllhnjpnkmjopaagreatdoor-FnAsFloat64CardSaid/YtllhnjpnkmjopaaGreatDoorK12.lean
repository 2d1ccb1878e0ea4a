/-
Texts of this proof, joined: RnI. No condition.
-/
import Derived.Test.YtllhnjpnkmjopaaGreatDoorK11
namespace Go.Proofs.YtllhnjpnkmjopaaGreatDoor
open Go.RowKit

theorem makeAcc_is (x : Bool) (acc : Int) (w : World) (h : acc = if x then 1 else -1) : Calls Tryz.prog 132 #[.bool x] w fun e w' => e = .returned (.int .i8 acc) ∧ w = w' := by
  rw [h]; exact makeAcc_any x w
set_option maxRecDepth 100000 in
set_option maxHeartbeats 3200000 in
theorem round_s7 (J K' : Act → World → Prop) (Q' : Exit → Act → World → Prop) (b m s rb : Nat) (w1 : World) (c1 : w1.cell? ⟨b, 1, none⟩ = some (.int .u8 (m : Int))) (_hs : s ≤ 1) (_hrb1 : rb ≤ 1) {y2 y3 y4 y5 y6 y8 y9 y10 y11 y12 y13 y14 y15 y16 y17 y18 y19 y20 y21 y22 y23 y24 y25 y26 y27 y28 y29 y30 y31 y32 y33 y34 y35 y36 y37 y38 y39 y40 y41 y42 y43 y44 y45 y46 y47 y48 y49 y50 y51 y52 y53 y54 y55 y56 y57 y58 y59 y60 y61 y62 y63 y64 y65 y66 y67 y68 y69 y70 y71 y72 y73 y74 y75 y76 y77 y78 y79 y80 y81 y82 y83 y84 y85 y86 y87 y88 y89 y90 y91 y92 y93 y94 y95 y96 y97 y98 y99 y100 y101 y102 y103 y104 y105 y106 y107 y108 y109 y110 y111 y112 y113 y114 y115 y116 y117 y118 y119 y120 y121 y122 y123 y124 y125 y126 y127 y128 y129 y130 y131 y132 y133 y134 y135 y136 y137 y138 y139 y140 y141 y142 y143 y144 y145 y146 y147 y148 y149 y150 y151 y152 y153 y154 y155 y156 y157 y158 y159 y160 y161 y162 y163 y164 y165 y166 y167 y168 y169 y170 y171 y172 y173 y174 y175 y176 y177 y178 y179 y180 y181 y182 y183 y184 y185 y186 y187 y188 y189 y190 y191 y192 y193 y194 y195 y196 y197 y198 y199 y200 y201 y202 y203 y204 y205 y206 y207 y208 y209 y210 y211 y212 y213 y214 y215 y216 y217 y218 y219 y220 y221 y222 y223 y224 : Value}
    (hJ : ∀ a' w', (∃ u12 u13 u14 u15 u16 u17 u18 u19 u20 u21 u22 u23 u24 u25 u26 u27 u28 u29 u30 u31 u32 u33 u34 u35 u36 u37 u38 u39 u40 u41 u42 u43 u44 u45 u46 u47 u48 u49 u50 u51 u52 u53 u54 u55 u56 u57 u58 u59 u60 u61 u62 u63 u64 u65 u66 u67 u68 u69 u70 u71 u72 u73 u74 u75 u76 u77 u78 u79 u80 u81 u82 u83 u84 u85 u86 u87 u88 u89 u90 u91 u92 u93 u94 u95 u96 u97 u98 u99 u100 u101 u102 u103 u104 u105 u106 u107 u108 u109 u110 u111 u112 u113 u114 u115 u116 u117 u118 u119 u120 u121 u122 u123 u124 u125 u126 u127 u128 u129 u130 u131 u132 u133 u134 u135 u136 u137 u138 u139 u140 u141 u142 u143 u144 u145 u146 u147 u148 u149 u150 u151 u152 u153 u154 u155 u156 u157 u158 u159 u160 u161 u162 u163 u164 u165 u166 u167 u168 u169 u170 u171 u172 u173 u174 u175 u176 u177 u178 u179 u180 u181 u182 u183 u184 u185 u186 u187 u188 u189 u190 u191 u192 u193 u194 u195 u196 u197 u198 u199 u200 u201 u202 u203 u204 u205 u206 u207 u208 u209 u210 u211 u212 u213 u214 u215 u216 u217 u218 u219 u220 u221 u222 u223 u224 : Value, (u61 = .bool (decide (s = 0) && (decide (rb = 0) || decide (m = 0))) ∧ w1 = w') ∧ a' = { tmps := #[.pointer (some ⟨b, 0, none⟩), .int .u64 s, y2, y3, y4, y5, y6, .int .u64 rb, y8, y9, y10, y11, u12, u13, u14, u15, u16, u17, u18, u19, u20, u21, u22, u23, u24, u25, u26, u27, u28, u29, u30, u31, u32, u33, u34, u35, u36, u37, u38, u39, u40, u41, u42, u43, u44, u45, u46, u47, u48, u49, u50, u51, u52, u53, u54, u55, u56, u57, u58, u59, u60, u61, u62, u63, u64, u65, u66, u67, u68, u69, u70, u71, u72, u73, u74, u75, u76, u77, u78, u79, u80, u81, u82, u83, u84, u85, u86, u87, u88, u89, u90, u91, u92, u93, u94, u95, u96, u97, u98, u99, u100, u101, u102, u103, u104, u105, u106, u107, u108, u109, u110, u111, u112, u113, u114, u115, u116, u117, u118, u119, u120, u121, u122, u123, u124, u125, u126, u127, u128, u129, u130, u131, u132, u133, u134, u135, u136, u137, u138, u139, u140, u141, u142, u143, u144, u145, u146, u147, u148, u149, u150, u151, u152, u153, u154, u155, u156, u157, u158, u159, u160, u161, u162, u163, u164, u165, u166, u167, u168, u169, u170, u171, u172, u173, u174, u175, u176, u177, u178, u179, u180, u181, u182, u183, u184, u185, u186, u187, u188, u189, u190, u191, u192, u193, u194, u195, u196, u197, u198, u199, u200, u201, u202, u203, u204, u205, u206, u207, u208, u209, u210, u211, u212, u213, u214, u215, u216, u217, u218, u219, u220, u221, u222, u223, u224], defers := [] }) → J a' w')
    (hK : ∀ a' w', Met J a' w' → K' a' w') :
    Code.wp Tryz.prog (nav [2, 2, 2, 2, 2, 2, 2, 1, 1] (fbody Tryz.f108)) (Exit.then K' Q') { tmps := #[.pointer (some ⟨b, 0, none⟩), .int .u64 s, y2, y3, y4, y5, y6, .int .u64 rb, y8, y9, y10, y11, y12, y13, y14, y15, y16, y17, y18, y19, y20, y21, y22, y23, y24, y25, y26, y27, y28, y29, y30, y31, y32, y33, y34, y35, y36, y37, y38, y39, y40, y41, y42, y43, y44, y45, y46, y47, y48, y49, y50, y51, y52, y53, y54, y55, y56, y57, y58, y59, y60, y61, y62, y63, y64, y65, y66, y67, y68, y69, y70, y71, y72, y73, y74, y75, y76, y77, y78, y79, y80, y81, y82, y83, y84, y85, y86, y87, y88, y89, y90, y91, y92, y93, y94, y95, y96, y97, y98, y99, y100, y101, y102, y103, y104, y105, y106, y107, y108, y109, y110, y111, y112, y113, y114, y115, y116, y117, y118, y119, y120, y121, y122, y123, y124, y125, y126, y127, y128, y129, y130, y131, y132, y133, y134, y135, y136, y137, y138, y139, y140, y141, y142, y143, y144, y145, y146, y147, y148, y149, y150, y151, y152, y153, y154, y155, y156, y157, y158, y159, y160, y161, y162, y163, y164, y165, y166, y167, y168, y169, y170, y171, y172, y173, y174, y175, y176, y177, y178, y179, y180, y181, y182, y183, y184, y185, y186, y187, y188, y189, y190, y191, y192, y193, y194, y195, y196, y197, y198, y199, y200, y201, y202, y203, y204, y205, y206, y207, y208, y209, y210, y211, y212, y213, y214, y215, y216, y217, y218, y219, y220, y221, y222, y223, y224], defers := [] } w1 := by
  simp only [nav, fbody, Tryz.f108, Option.getD_some]
  by_cases hs0 : s = 0
  · have q1 : ((s : Int) == 0) = true := by rw [hs0]; rfl
    by_cases hb0 : rb = 0
    · have q2 : ((rb : Int) == 0) = true := by rw [hb0]; rfl
      go_wp2_with fail
      go_meet
      exact ⟨by simp [hs0, hb0], rfl⟩
    · have q2 : ((rb : Int) == 0) = false := by rw [beq_eq_false_iff_ne]; omega
      by_cases hm0 : m = 0
      · have q3 : ((m : Int) == 0) = true := by rw [hm0]; rfl
        go_wp2_with fail
        go_meet
        exact ⟨by simp [hs0, hm0], rfl⟩
      · have q3 : ((m : Int) == 0) = false := by rw [beq_eq_false_iff_ne]; omega
        go_wp2_with fail
        go_meet
        exact ⟨by simp [hs0, hb0, hm0], rfl⟩
  · have q1 : ((s : Int) == 0) = false := by rw [beq_eq_false_iff_ne]; omega
    go_wp2_with fail
    go_meet
    exact ⟨by simp [hs0], rfl⟩
set_option maxRecDepth 100000 in
set_option maxHeartbeats 3200000 in
theorem round_s61 (J K' : Act → World → Prop) (Q' : Exit → Act → World → Prop) (b m s rb r L : Nat) (v : Value) (ws : List Nat) (w1 : World) (c5 : w1.cell? ⟨b, 5, none⟩ = some v) (rwO : Hid (RW w1 v ws)) (HL : Hid (L = ws.length)) (hrL : r < 64 * L) (hl : L ≤ 1000000) (hs : s ≤ 1) (hrb1 : rb ≤ 1) (C0 : Bool) (hC0 : C0 = (decide (s = 0) && (decide (rb = 0) || decide (m = 0)))) {y2 y3 y4 y5 y8 y9 y10 y11 y12 y13 y14 y15 y16 y17 y18 y19 y20 y21 y22 y23 y24 y25 y26 y27 y28 y29 y30 y31 y32 y33 y34 y35 y36 y37 y38 y39 y40 y41 y42 y43 y44 y45 y46 y47 y48 y49 y50 y51 y52 y53 y54 y55 y56 y57 y58 y59 y60 y62 y63 y64 y65 y66 y67 y68 y69 y70 y71 y72 y73 y74 y75 y76 y77 y78 y79 y80 y81 y82 y83 y84 y85 y86 y87 y88 y89 y90 y91 y92 y93 y94 y95 y96 y97 y98 y99 y100 y101 y102 y103 y104 y105 y106 y107 y108 y109 y110 y111 y112 y113 y114 y115 y116 y117 y118 y119 y120 y121 y122 y123 y124 y125 y126 y127 y128 y129 y130 y131 y132 y133 y134 y135 y136 y137 y138 y139 y140 y141 y142 y143 y144 y145 y146 y147 y148 y149 y150 y151 y152 y153 y154 y155 y156 y157 y158 y159 y160 y161 y162 y163 y164 y165 y166 y167 y168 y169 y170 y171 y172 y173 y174 y175 y176 y177 y178 y179 y180 y181 y182 y183 y184 y185 y186 y187 y188 y189 y190 y191 y192 y193 y194 y195 y196 y197 y198 y199 y200 y201 y202 y203 y204 y205 y206 y207 y208 y209 y210 y211 y212 y213 y214 y215 y216 y217 y218 y219 y220 y221 y222 y223 y224 : Value}
    (hJ : ∀ a' w', (∃ u1 : Value, ∃ u12 u13 u14 u15 u16 u17 u18 u19 u20 u21 u22 u23 u24 u25 u26 u27 u28 u29 u30 u31 u32 u33 u34 u35 u36 u37 u38 u39 u40 u41 u42 u43 u44 u45 u46 u47 u48 u49 u50 u51 u52 u53 u54 u55 u56 u57 u58 u59 u60 u61 u62 u63 u64 u65 u66 u67 u68 u69 u70 u71 u72 u73 u74 u75 u76 u77 u78 u79 u80 u81 u82 u83 u84 u85 u86 u87 u88 u89 u90 u91 u92 u93 u94 u95 u96 u97 u98 u99 u100 u101 u102 u103 u104 u105 u106 u107 u108 u109 u110 u111 u112 u113 u114 u115 u116 u117 u118 u119 u120 u121 u122 u123 u124 u125 u126 u127 u128 u129 u130 u131 u132 u133 u134 u135 u136 u137 u138 u139 u140 u141 u142 u143 u144 u145 u146 u147 u148 u149 u150 u151 u152 u153 u154 u155 u156 u157 u158 u159 u160 u161 u162 u163 u164 u165 u166 u167 u168 u169 u170 u171 u172 u173 u174 u175 u176 u177 u178 u179 u180 u181 u182 u183 u184 u185 u186 u187 u188 u189 u190 u191 u192 u193 u194 u195 u196 u197 u198 u199 u200 u201 u202 u203 u204 u205 u206 u207 u208 u209 u210 u211 u212 u213 u214 u215 u216 u217 u218 u219 u220 u221 u222 u223 u224 : Value, (∃ sb : Nat, u1 = .int .u64 sb ∧ sb ≤ 1 ∧ (rb = 0 ∨ m = 0 → sb = sfV (wv ws) r s) ∧ w1 = w') ∧ a' = { tmps := #[.pointer (some ⟨b, 0, none⟩), u1, y2, y3, y4, y5, .int .u64 r, .int .u64 rb, y8, y9, y10, y11, u12, u13, u14, u15, u16, u17, u18, u19, u20, u21, u22, u23, u24, u25, u26, u27, u28, u29, u30, u31, u32, u33, u34, u35, u36, u37, u38, u39, u40, u41, u42, u43, u44, u45, u46, u47, u48, u49, u50, u51, u52, u53, u54, u55, u56, u57, u58, u59, u60, u61, u62, u63, u64, u65, u66, u67, u68, u69, u70, u71, u72, u73, u74, u75, u76, u77, u78, u79, u80, u81, u82, u83, u84, u85, u86, u87, u88, u89, u90, u91, u92, u93, u94, u95, u96, u97, u98, u99, u100, u101, u102, u103, u104, u105, u106, u107, u108, u109, u110, u111, u112, u113, u114, u115, u116, u117, u118, u119, u120, u121, u122, u123, u124, u125, u126, u127, u128, u129, u130, u131, u132, u133, u134, u135, u136, u137, u138, u139, u140, u141, u142, u143, u144, u145, u146, u147, u148, u149, u150, u151, u152, u153, u154, u155, u156, u157, u158, u159, u160, u161, u162, u163, u164, u165, u166, u167, u168, u169, u170, u171, u172, u173, u174, u175, u176, u177, u178, u179, u180, u181, u182, u183, u184, u185, u186, u187, u188, u189, u190, u191, u192, u193, u194, u195, u196, u197, u198, u199, u200, u201, u202, u203, u204, u205, u206, u207, u208, u209, u210, u211, u212, u213, u214, u215, u216, u217, u218, u219, u220, u221, u222, u223, u224], defers := [] }) → J a' w')
    (hK : ∀ a' w', Met J a' w' → K' a' w') :
    Code.wp Tryz.prog (nav [2, 2, 2, 2, 2, 2, 2, 1, 2] (fbody Tryz.f108)) (Exit.then K' Q') { tmps := #[.pointer (some ⟨b, 0, none⟩), .int .u64 s, y2, y3, y4, y5, .int .u64 r, .int .u64 rb, y8, y9, y10, y11, y12, y13, y14, y15, y16, y17, y18, y19, y20, y21, y22, y23, y24, y25, y26, y27, y28, y29, y30, y31, y32, y33, y34, y35, y36, y37, y38, y39, y40, y41, y42, y43, y44, y45, y46, y47, y48, y49, y50, y51, y52, y53, y54, y55, y56, y57, y58, y59, y60, .bool C0, y62, y63, y64, y65, y66, y67, y68, y69, y70, y71, y72, y73, y74, y75, y76, y77, y78, y79, y80, y81, y82, y83, y84, y85, y86, y87, y88, y89, y90, y91, y92, y93, y94, y95, y96, y97, y98, y99, y100, y101, y102, y103, y104, y105, y106, y107, y108, y109, y110, y111, y112, y113, y114, y115, y116, y117, y118, y119, y120, y121, y122, y123, y124, y125, y126, y127, y128, y129, y130, y131, y132, y133, y134, y135, y136, y137, y138, y139, y140, y141, y142, y143, y144, y145, y146, y147, y148, y149, y150, y151, y152, y153, y154, y155, y156, y157, y158, y159, y160, y161, y162, y163, y164, y165, y166, y167, y168, y169, y170, y171, y172, y173, y174, y175, y176, y177, y178, y179, y180, y181, y182, y183, y184, y185, y186, y187, y188, y189, y190, y191, y192, y193, y194, y195, y196, y197, y198, y199, y200, y201, y202, y203, y204, y205, y206, y207, y208, y209, y210, y211, y212, y213, y214, y215, y216, y217, y218, y219, y220, y221, y222, y223, y224], defers := [] } w1 := by
  have hS := rwO.out.isS
  simp only [nav, fbody, Tryz.f108, Option.getD_some]
  obtain ⟨C, hCC⟩ : ∃ C, C = C0 := ⟨_, rfl⟩
  rw [← hCC]
  rw [← hCC] at hC0
  have HC := Lib.hid hC0
  clear hC0 hCC
  cases C with
  | true =>
    go_wp2_with fail
    refine (sticky_any v ws r w1 rwO.out (by rw [← HL.out]; exact hrL) (by rw [← HL.out]; omega)).mono ?_
    rintro _ _ ⟨rfl, rfl⟩
    dsimp only
    go_wp2_with fail
    go_meet
    have hC := HC.out
    exact ⟨_, rfl, stV_le _ _, fun _ => by unfold sfV; rw [if_pos (by simp at hC; exact hC.1)], rfl⟩
  | false =>
    go_wp2_with fail
    go_meet
    have hC := HC.out
    refine ⟨s, rfl, hs, fun h => ?_, rfl⟩
    have : s ≠ 0 := fun h0 => by simp [h0] at hC; omega
    unfold sfV; rw [if_neg this]; omega
set_option maxRecDepth 100000 in
set_option maxHeartbeats 3200000 in
theorem round_cp (J K' : Act → World → Prop) (Q' : Exit → Act → World → Prop) (B b p m n L : Nat) (e : Int) (neg : Bool) (v : Value) (ws : List Nat) (w w1 : World) (HR2 : Hid (FltR w1 b p m 0 1 neg v e)) (HO2 : Hid (Own w1 B 116 v (cellsW ws))) (HB2 : Hid (Bel b (sBlk v) w w1)) (HD : Hid (∀ d ∈ ws, d < 18446744073709551616)) (HL : Hid (L = ws.length)) (hnl : n ≤ L) (hn0 : 0 < n) (hl : L ≤ 1000000)
    (HLen : Hid ((ws.drop (L - n)).length = n)) {y1 y2 y3 y5 y6 y7 y9 y10 y11 y12 y13 y14 y15 y16 y17 y18 y19 y20 y21 y22 y23 y24 y25 y26 y27 y28 y29 y30 y31 y32 y33 y34 y35 y36 y37 y38 y39 y40 y41 y42 y43 y44 y45 y46 y47 y48 y49 y50 y51 y52 y53 y54 y55 y56 y57 y58 y59 y60 y61 y62 y63 y64 y65 y66 y67 y68 y69 y70 y71 y72 y73 y74 y75 y76 y77 y79 y80 y81 y82 y83 y84 y85 y86 y87 y88 y89 y90 y91 y92 y93 y94 y95 y96 y97 y98 y99 y100 y101 y102 y103 y104 y105 y106 y107 y108 y109 y110 y111 y112 y113 y114 y115 y116 y117 y118 y119 y120 y121 y122 y123 y124 y125 y126 y127 y128 y129 y130 y131 y132 y133 y134 y135 y136 y137 y138 y139 y140 y141 y142 y143 y144 y145 y146 y147 y148 y149 y150 y151 y152 y153 y154 y155 y156 y157 y158 y159 y160 y161 y162 y163 y164 y165 y166 y167 y168 y169 y170 y171 y172 y173 y174 y175 y176 y177 y178 y179 y180 y181 y182 y183 y184 y185 y186 y187 y188 y189 y190 y191 y192 y193 y194 y195 y196 y197 y198 y199 y200 y201 y202 y203 y204 y205 y206 y207 y208 y209 y210 y211 y212 y213 y214 y215 y216 y217 y218 y219 y220 y221 y222 y223 y224 : Value} (hC0 : Bool) (hh : hC0 = decide ((n : Int) < L))
    (hJ : ∀ a' w', (∃ u12 u13 u14 u15 u16 u17 u18 u19 u20 u21 u22 u23 u24 u25 u26 u27 u28 u29 u30 u31 u32 u33 u34 u35 u36 u37 u38 u39 u40 u41 u42 u43 u44 u45 u46 u47 u48 u49 u50 u51 u52 u53 u54 u55 u56 u57 u58 u59 u60 u61 u62 u63 u64 u65 u66 u67 u68 u69 u70 u71 u72 u73 u74 u75 u76 u77 u78 u79 u80 u81 u82 u83 u84 u85 u86 u87 u88 u89 u90 u91 u92 u93 u94 u95 u96 u97 u98 u99 u100 u101 u102 u103 u104 u105 u106 u107 u108 u109 u110 u111 u112 u113 u114 u115 u116 u117 u118 u119 u120 u121 u122 u123 u124 u125 u126 u127 u128 u129 u130 u131 u132 u133 u134 u135 u136 u137 u138 u139 u140 u141 u142 u143 u144 u145 u146 u147 u148 u149 u150 u151 u152 u153 u154 u155 u156 u157 u158 u159 u160 u161 u162 u163 u164 u165 u166 u167 u168 u169 u170 u171 u172 u173 u174 u175 u176 u177 u178 u179 u180 u181 u182 u183 u184 u185 u186 u187 u188 u189 u190 u191 u192 u193 u194 u195 u196 u197 u198 u199 u200 u201 u202 u203 u204 u205 u206 u207 u208 u209 u210 u211 u212 u213 u214 u215 u216 u217 u218 u219 u220 u221 u222 u223 u224 : Value, (∃ v1, FltR w' b p m 0 1 neg v1 e ∧ Own w' B 116 v1 (cellsW (ws.drop (L - n))) ∧ sBlk v1 = sBlk v ∧ Bel b (sBlk v) w w') ∧ a' = { tmps := #[.pointer (some ⟨b, 0, none⟩), y1, y2, y3, .int .u32 L, y5, y6, y7, .int .u32 n, y9, y10, y11, u12, u13, u14, u15, u16, u17, u18, u19, u20, u21, u22, u23, u24, u25, u26, u27, u28, u29, u30, u31, u32, u33, u34, u35, u36, u37, u38, u39, u40, u41, u42, u43, u44, u45, u46, u47, u48, u49, u50, u51, u52, u53, u54, u55, u56, u57, u58, u59, u60, u61, u62, u63, u64, u65, u66, u67, u68, u69, u70, u71, u72, u73, u74, u75, u76, u77, u78, u79, u80, u81, u82, u83, u84, u85, u86, u87, u88, u89, u90, u91, u92, u93, u94, u95, u96, u97, u98, u99, u100, u101, u102, u103, u104, u105, u106, u107, u108, u109, u110, u111, u112, u113, u114, u115, u116, u117, u118, u119, u120, u121, u122, u123, u124, u125, u126, u127, u128, u129, u130, u131, u132, u133, u134, u135, u136, u137, u138, u139, u140, u141, u142, u143, u144, u145, u146, u147, u148, u149, u150, u151, u152, u153, u154, u155, u156, u157, u158, u159, u160, u161, u162, u163, u164, u165, u166, u167, u168, u169, u170, u171, u172, u173, u174, u175, u176, u177, u178, u179, u180, u181, u182, u183, u184, u185, u186, u187, u188, u189, u190, u191, u192, u193, u194, u195, u196, u197, u198, u199, u200, u201, u202, u203, u204, u205, u206, u207, u208, u209, u210, u211, u212, u213, u214, u215, u216, u217, u218, u219, u220, u221, u222, u223, u224], defers := [] }) → J a' w')
    (hK : ∀ a' w', Met J a' w' → K' a' w') (hQp : ∀ ch a w, ¬ Q' (Exit.panic ch) a w) (hQo : ∀ a w, ¬ Q' Exit.outgrown a w) :
    Code.wp Tryz.prog (nav [2, 2, 2, 2, 2, 2, 2, 2, 2, 2, 1, 2] (fbody Tryz.f108)) (Exit.then K' Q') { tmps := #[.pointer (some ⟨b, 0, none⟩), y1, y2, y3, .int .u32 L, y5, y6, y7, .int .u32 n, y9, y10, y11, y12, y13, y14, y15, y16, y17, y18, y19, y20, y21, y22, y23, y24, y25, y26, y27, y28, y29, y30, y31, y32, y33, y34, y35, y36, y37, y38, y39, y40, y41, y42, y43, y44, y45, y46, y47, y48, y49, y50, y51, y52, y53, y54, y55, y56, y57, y58, y59, y60, y61, y62, y63, y64, y65, y66, y67, y68, y69, y70, y71, y72, y73, y74, y75, y76, y77, .bool hC0, y79, y80, y81, y82, y83, y84, y85, y86, y87, y88, y89, y90, y91, y92, y93, y94, y95, y96, y97, y98, y99, y100, y101, y102, y103, y104, y105, y106, y107, y108, y109, y110, y111, y112, y113, y114, y115, y116, y117, y118, y119, y120, y121, y122, y123, y124, y125, y126, y127, y128, y129, y130, y131, y132, y133, y134, y135, y136, y137, y138, y139, y140, y141, y142, y143, y144, y145, y146, y147, y148, y149, y150, y151, y152, y153, y154, y155, y156, y157, y158, y159, y160, y161, y162, y163, y164, y165, y166, y167, y168, y169, y170, y171, y172, y173, y174, y175, y176, y177, y178, y179, y180, y181, y182, y183, y184, y185, y186, y187, y188, y189, y190, y191, y192, y193, y194, y195, y196, y197, y198, y199, y200, y201, y202, y203, y204, y205, y206, y207, y208, y209, y210, y211, y212, y213, y214, y215, y216, y217, y218, y219, y220, y221, y222, y223, y224], defers := [] } w1 := by
  have hS := HO2.out.isS
  have hL : sLen v = L := by rw [HO2.out.len, cellsW_length, HL.out]
  obtain ⟨c0, c1, c2, c3', c4, c5, c6⟩ := HR2.out.cells
  obtain ⟨f0, f1, f2, f3, f4, f5, f6⟩ := HR2.out.free
  simp only [nav, fbody, Tryz.f108, Option.getD_some]
  by_cases hc : n < L
  · have q1 : hC0 = true := by rw [hh]; exact decide_eq_true (by omega)
    subst q1
    clear hh
    have e5 : (L : Int) - (n : Int) = ((L - n : Nat) : Int) := by omega
    obtain ⟨k, hk⟩ : ∃ k, k = L - n := ⟨_, rfl⟩
    rw [← hk] at e5
    have HK := Lib.hid hk
    clear hk
    go_wp2
    (refine wp_region_hoist 12 (by kernel_rfl) (by kernel_rfl) ⟨fun _ _ _ h => (by first | exact (hQp _ _ _ h).elim | cases h.2.1 | (obtain ⟨_, h3, _⟩ := h.2; cases h3)), fun _ _ h => (by first | exact (hQo _ _ h).elim | cases h.1 | (obtain ⟨_, h3, _⟩ := h; cases h3))⟩ ?_; simp only [List.take_succ_cons, List.take_zero, List.drop_succ_cons, List.drop_zero]; (repeat (go_big_quiet_step (fail))); refine wpQuiet_nil ?_; rintro _ ⟨nq, rfl⟩)
    go_wp2_with (refine wpList_copy_F (o := ⟨some 91, _, _, _, _, _⟩) rfl (.tmp 82) (.tmp 90) 108 108 rfl 116 Tryz.underlying108 sizeW v (subS v k L) rfl (by simp [Act.eval]) B (cellsW ws) (HO2.out.drewN _) (cellsW (ws.drop k)) ?g0 ?g1 ?g2 ?g3 ?g4 (cellsW_one _) ?_)
    case g0 => rw [cellsW_length, HK.out, HLen.out]; exact hn0
    case g1 => rw [cellsW_length, cellsW_length, HK.out, HLen.out, ← HL.out]; exact hnl
    case g2 => exact subS_isS hS (by have := HK.out; omega) (by have := hS.le; omega)
    case g3 => rw [subS_len hS, cellsW_length, HK.out, HLen.out]; omega
    case g4 => exact (((HO2.out.drewN nq).dropW HL.out (by have := HK.out; omega)).rw' (fun d h => HD.out d (List.mem_of_mem_drop h))).at
    intro w3 o3 b3 n3
    have hcap : 0 < sCap v := by have := hS.le; omega
    have hne : sBlk v ≠ b := (HO2.out.ne_row HR2.out (by decide) hcap)
    have R3 : FltR w3 b p m 0 1 neg v e := (n3 b HR2.out.lt hne.symm).trans HR2.out
    have O3 := o3.sub (l := 0) (n := n) (Nat.zero_le _) (by rw [List.length_append, cellsW_length, HK.out, HLen.out]; omega)
    rw [List.drop_zero, List.take_append_of_le_length (by rw [cellsW_length, HK.out, HLen.out]; exact Nat.le_refl _), List.take_of_length_le (by rw [cellsW_length, HK.out, HLen.out]; exact Nat.le_refl _)] at O3
    have B3 := HB2.out.trans (bel_only b3 n3)
    obtain ⟨k0, k1, k2, k3, k4, k5, k6⟩ := R3.cells
    obtain ⟨l0, l1, l2, l3, l4, l5, l6⟩ := R3.free
    have R4 := Lib.hid (R3.s5 (subS v 0 n))
    have O4 := Lib.hid (R3.own O3 5 (subS v 0 n))
    have B4 := Lib.hid (Bel.box (i := 5) (x := subS v 0 n) B3)
    have hSs : IsS (subS v 0 n) := O3.isS
    have hnc : n ≤ sCap v := by have := hS.le; omega
    clear R3 O3 B3 o3 b3 n3 c0 c1 c2 c3' c4 c5 c6 f0 f1 f2 f3 f4 f5 f6
    go_wp2
    go_meet
    have := HK.out
    subst this
    exact ⟨_, R4.out, O4.out, subS_blk hS, B4.out⟩
  · have q1 : hC0 = false := by rw [hh]; exact decide_eq_false (by omega)
    subst q1
    clear hh
    go_wp2_with fail
    go_meet
    rw [show L - n = 0 by omega, List.drop_zero]
    exact ⟨v, HR2.out, HO2.out, rfl, HB2.out⟩
end Go.Proofs.YtllhnjpnkmjopaaGreatDoor
