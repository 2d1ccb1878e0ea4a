/-
Texts of this proof, joined: RnG. No condition.
-/
import Derived.Test.YtllhnjpnkmjopaaGreatDoorK09
namespace Go.Proofs.YtllhnjpnkmjopaaGreatDoor
open Go.RowKit

set_option maxRecDepth 100000 in
set_option maxHeartbeats 3200000 in
theorem round_mode (J K' : Act → World → Prop) (Q' : Exit → Act → World → Prop) (b m rb sb T d0 g : Nat) (neg odd : Bool) (v1 : Value) (wc : World) {y2 y3 y4 y5 y6 y8 y9 y12 y13 y14 y15 y16 y17 y18 y19 y20 y21 y22 y23 y24 y25 y26 y27 y28 y29 y30 y31 y32 y33 y34 y35 y36 y37 y38 y39 y40 y41 y42 y43 y44 y45 y46 y47 y48 y49 y50 y51 y52 y53 y54 y55 y56 y57 y58 y59 y60 y61 y62 y63 y64 y65 y66 y67 y68 y69 y70 y71 y72 y73 y74 y75 y76 y77 y78 y79 y80 y81 y82 y83 y84 y85 y86 y87 y88 y89 y90 y91 y92 y93 y94 y95 y96 y97 y98 y99 y100 y101 y102 y103 y104 y105 y106 y107 y108 y109 y110 y111 y112 y113 y114 y115 y116 y118 y119 y120 y121 y122 y123 y124 y125 y126 y127 y128 y129 y130 y131 y132 y133 y134 y135 y136 y137 y138 y139 y140 y141 y142 y143 y144 y145 y146 y147 y148 y149 y150 y151 y152 y153 y154 y155 y156 y157 y158 y159 y160 y161 y162 y163 y164 y165 y166 y167 y168 y169 y170 y171 y172 y173 y174 y175 y176 y177 y178 y179 y180 y181 y182 y183 y184 y185 y186 y187 y188 y189 y190 y191 y192 y193 y194 y195 y196 y197 y198 y199 y200 y201 y202 y203 y204 y205 y206 y207 y208 y209 y210 y211 y212 y213 y214 y215 y216 y217 y218 y219 y220 y221 y222 y223 y224 : Value}
    (k4 : wc.cell? ⟨b, 4, none⟩ = some (.bool neg)) (k5 : wc.cell? ⟨b, 5, none⟩ = some v1) (cw : wc.cell? ⟨sBlk v1, sOff v1, none⟩ = some (.int .u64 d0)) (hS1 : IsS v1) (n : Nat) (hn0 : 0 < n) (hL1 : sLen v1 = n)
    (hal : bits .and .u64 (d0 : Int) (T : Int) = (g : Int)) (hod2 : ((g : Int) != 0) = odd) (hm : m ≤ 5) (hrb1 : rb ≤ 1) (hsb : sb ≤ 1)
    (hJ : ∀ a' w', (∃ u11 u12 u13 u14 u15 u16 u17 u18 u19 u20 u21 u22 u23 u24 u25 u26 u27 u28 u29 u30 u31 u32 u33 u34 u35 u36 u37 u38 u39 u40 u41 u42 u43 u44 u45 u46 u47 u48 u49 u50 u51 u52 u53 u54 u55 u56 u57 u58 u59 u60 u61 u62 u63 u64 u65 u66 u67 u68 u69 u70 u71 u72 u73 u74 u75 u76 u77 u78 u79 u80 u81 u82 u83 u84 u85 u86 u87 u88 u89 u90 u91 u92 u93 u94 u95 u96 u97 u98 u99 u100 u101 u102 u103 u104 u105 u106 u107 u108 u109 u110 u111 u112 u113 u114 u115 u116 u117 u118 u119 u120 u121 u122 u123 u124 u125 u126 u127 u128 u129 u130 u131 u132 u133 u134 u135 u136 u137 u138 u139 u140 u141 u142 u143 u144 u145 u146 u147 u148 u149 u150 u151 u152 u153 u154 u155 u156 u157 u158 u159 u160 u161 u162 u163 u164 u165 u166 u167 u168 u169 u170 u171 u172 u173 u174 u175 u176 u177 u178 u179 u180 u181 u182 u183 u184 u185 u186 u187 u188 u189 u190 u191 u192 u193 u194 u195 u196 u197 u198 u199 u200 u201 u202 u203 u204 u205 u206 u207 u208 u209 u210 u211 u212 u213 u214 u215 u216 u217 u218 u219 u220 u221 u222 u223 u224 : Value, (u11 = .bool (incV m neg rb sb odd) ∧ wc = w') ∧ a' = { tmps := #[.pointer (some ⟨b, 0, none⟩), .int .u64 sb, y2, y3, y4, y5, y6, .int .u64 rb, y8, y9, .int .u64 T, u11, u12, u13, u14, u15, u16, u17, u18, u19, u20, u21, u22, u23, u24, u25, u26, u27, u28, u29, u30, u31, u32, u33, u34, u35, u36, u37, u38, u39, u40, u41, u42, u43, u44, u45, u46, u47, u48, u49, u50, u51, u52, u53, u54, u55, u56, u57, u58, u59, u60, u61, u62, u63, u64, u65, u66, u67, u68, u69, u70, u71, u72, u73, u74, u75, u76, u77, u78, u79, u80, u81, u82, u83, u84, u85, u86, u87, u88, u89, u90, u91, u92, u93, u94, u95, u96, u97, u98, u99, u100, u101, u102, u103, u104, u105, u106, u107, u108, u109, u110, u111, u112, u113, u114, u115, u116, u117, u118, u119, u120, u121, u122, u123, u124, u125, u126, u127, u128, u129, u130, u131, u132, u133, u134, u135, u136, u137, u138, u139, u140, u141, u142, u143, u144, u145, u146, u147, u148, u149, u150, u151, u152, u153, u154, u155, u156, u157, u158, u159, u160, u161, u162, u163, u164, u165, u166, u167, u168, u169, u170, u171, u172, u173, u174, u175, u176, u177, u178, u179, u180, u181, u182, u183, u184, u185, u186, u187, u188, u189, u190, u191, u192, u193, u194, u195, u196, u197, u198, u199, u200, u201, u202, u203, u204, u205, u206, u207, u208, u209, u210, u211, u212, u213, u214, u215, u216, u217, u218, u219, u220, u221, u222, u223, u224], defers := [] }) → J a' w')
    (hK : ∀ a' w', Met J a' w' → K' a' w') :
    Code.wp Tryz.prog (nav [2, 2, 2, 2, 2, 2, 2, 2, 2, 2, 2, 2, 2, 1, 2, 3, 2, 1, 2] (fbody Tryz.f108)) (Exit.then K' Q') { tmps := #[.pointer (some ⟨b, 0, none⟩), .int .u64 sb, y2, y3, y4, y5, y6, .int .u64 rb, y8, y9, .int .u64 T, .bool false, y12, y13, y14, y15, y16, y17, y18, y19, y20, y21, y22, y23, y24, y25, y26, y27, y28, y29, y30, y31, y32, y33, y34, y35, y36, y37, y38, y39, y40, y41, y42, y43, y44, y45, y46, y47, y48, y49, y50, y51, y52, y53, y54, y55, y56, y57, y58, y59, y60, y61, y62, y63, y64, y65, y66, y67, y68, y69, y70, y71, y72, y73, y74, y75, y76, y77, y78, y79, y80, y81, y82, y83, y84, y85, y86, y87, y88, y89, y90, y91, y92, y93, y94, y95, y96, y97, y98, y99, y100, y101, y102, y103, y104, y105, y106, y107, y108, y109, y110, y111, y112, y113, y114, y115, y116, .int .u8 m, y118, y119, y120, y121, y122, y123, y124, y125, y126, y127, y128, y129, y130, y131, y132, y133, y134, y135, y136, y137, y138, y139, y140, y141, y142, y143, y144, y145, y146, y147, y148, y149, y150, y151, y152, y153, y154, y155, y156, y157, y158, y159, y160, y161, y162, y163, y164, y165, y166, y167, y168, y169, y170, y171, y172, y173, y174, y175, y176, y177, y178, y179, y180, y181, y182, y183, y184, y185, y186, y187, y188, y189, y190, y191, y192, y193, y194, y195, y196, y197, y198, y199, y200, y201, y202, y203, y204, y205, y206, y207, y208, y209, y210, y211, y212, y213, y214, y215, y216, y217, y218, y219, y220, y221, y222, y223, y224], defers := [] } wc := by
  simp only [nav, fbody, Tryz.f108, Option.getD_some]
  rcases (by omega : m = 0 ∨ m = 1 ∨ m = 2 ∨ m = 3 ∨ m = 4 ∨ m = 5) with hm0 | hm0 | hm0 | hm0 | hm0 | hm0
  · have m4 : ((m : Int) == 4) = false := by rw [hm0]; rfl
    have m2 : ((m : Int) == 2) = false := by rw [hm0]; rfl
    have m0 : ((m : Int) == 0) = true := by rw [hm0]; rfl
    have m1 : ((m : Int) == 1) = false := by rw [hm0]; rfl
    have m3 : ((m : Int) == 3) = false := by rw [hm0]; rfl
    have m5 : ((m : Int) == 5) = false := by rw [hm0]; rfl
    rcases (by omega : rb = 0 ∨ rb = 1) with h1 | h1
    · have z1 : ((rb : Int) != 0) = false := by rw [h1]; rfl
      go_wp2_with fail
      go_meet
      exact ⟨by rw [hm0, h1]; rfl, rfl⟩
    · have z1 : ((rb : Int) != 0) = true := by rw [h1]; rfl
      rcases (by omega : sb = 0 ∨ sb = 1) with h2 | h2
      · have z2 : ((sb : Int) != 0) = false := by rw [h2]; rfl
        go_wp2_with fail
        go_meet
        exact ⟨by rw [hm0, h1, h2]; rfl, rfl⟩
      · have z2 : ((sb : Int) != 0) = true := by rw [h2]; rfl
        go_wp2_with fail
        go_meet
        exact ⟨by rw [hm0, h1, h2]; rfl, rfl⟩
  · have m4 : ((m : Int) == 4) = false := by rw [hm0]; rfl
    have m2 : ((m : Int) == 2) = false := by rw [hm0]; rfl
    have m0 : ((m : Int) == 0) = false := by rw [hm0]; rfl
    have m1 : ((m : Int) == 1) = true := by rw [hm0]; rfl
    have m3 : ((m : Int) == 3) = false := by rw [hm0]; rfl
    have m5 : ((m : Int) == 5) = false := by rw [hm0]; rfl
    have z1 : ((rb : Int) != 0) = decide (rb ≠ 0) := by rcases (by omega : rb = 0 ∨ rb = 1) with h | h <;> rw [h] <;> rfl
    go_wp2_with fail
    go_meet
    exact ⟨by simp [incV, hm0], rfl⟩
  · have m4 : ((m : Int) == 4) = false := by rw [hm0]; rfl
    have m2 : ((m : Int) == 2) = true := by rw [hm0]; rfl
    have m0 : ((m : Int) == 0) = false := by rw [hm0]; rfl
    have m1 : ((m : Int) == 1) = false := by rw [hm0]; rfl
    have m3 : ((m : Int) == 3) = false := by rw [hm0]; rfl
    have m5 : ((m : Int) == 5) = false := by rw [hm0]; rfl
    go_wp2_with fail
    go_meet
    exact ⟨by rw [hm0]; rfl, rfl⟩
  · have m4 : ((m : Int) == 4) = false := by rw [hm0]; rfl
    have m2 : ((m : Int) == 2) = false := by rw [hm0]; rfl
    have m0 : ((m : Int) == 0) = false := by rw [hm0]; rfl
    have m1 : ((m : Int) == 1) = false := by rw [hm0]; rfl
    have m3 : ((m : Int) == 3) = true := by rw [hm0]; rfl
    have m5 : ((m : Int) == 5) = false := by rw [hm0]; rfl
    go_wp2_with fail
    go_meet
    exact ⟨by rw [hm0]; rfl, rfl⟩
  · have m4 : ((m : Int) == 4) = true := by rw [hm0]; rfl
    have m2 : ((m : Int) == 2) = false := by rw [hm0]; rfl
    have m0 : ((m : Int) == 0) = false := by rw [hm0]; rfl
    have m1 : ((m : Int) == 1) = false := by rw [hm0]; rfl
    have m3 : ((m : Int) == 3) = false := by rw [hm0]; rfl
    have m5 : ((m : Int) == 5) = false := by rw [hm0]; rfl
    go_wp2_with fail
    go_meet
    exact ⟨by rw [hm0]; rfl, rfl⟩
  · have m4 : ((m : Int) == 4) = false := by rw [hm0]; rfl
    have m2 : ((m : Int) == 2) = false := by rw [hm0]; rfl
    have m0 : ((m : Int) == 0) = false := by rw [hm0]; rfl
    have m1 : ((m : Int) == 1) = false := by rw [hm0]; rfl
    have m3 : ((m : Int) == 3) = false := by rw [hm0]; rfl
    have m5 : ((m : Int) == 5) = true := by rw [hm0]; rfl
    go_wp2_with fail
    go_meet
    exact ⟨by rw [hm0]; rfl, rfl⟩
end Go.Proofs.YtllhnjpnkmjopaaGreatDoor
