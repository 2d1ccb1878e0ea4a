/-
Texts of this proof, joined: AfD AfE RoF. No condition.
-/
import Derived.Test.YtllhnjpnkmjopaaGreatDoorK02
import Derived.Test.YtllhnjpnkmjopaaGreatDoorK45
import Derived.ProofKit
import Derived.OpenShut
import Derived.ChangeOld
namespace Go.Proofs.YtllhnjpnkmjopaaGreatDoor
open Go.RowKit

theorem bl_quN {a b q : Nat} (_hb : 0 < b) : bl (quN q a b) ≤ bl a + quK q a b + 2 := by
  refine bl_le ?_
  have h1 : qN a b (quK q a b) ≤ a * 2 ^ quK q a b := Nat.div_le_self _ _
  have h2 := lt_bl a
  have h3 : a * 2 ^ quK q a b < 2 ^ (bl a + quK q a b) := by rw [Nat.pow_add]; exact Nat.mul_lt_mul_of_pos_right h2 (Nat.two_pow_pos _)
  have h4 := qS_le a b (quK q a b)
  unfold quN
  rw [Nat.pow_add]
  omega
theorem didAs_0 {n1 n2 : Bool} {M N : Nat} {E F : Int} {v1 v2 : Value} (w : World) (h1 : AsR w n1 M E v1) (h2 : AsR w n2 N F v2) (hT : TabW w)  :
    Calls Tryz.prog 29 #[.int .i64 0, .int .u64 53, .int .i64 0, .agg #[.int .u64 53, .int .i64 0, .int .i64 1, .bool n1, v1, .int .i64 (E + (tz M : Nat))], .agg #[.int .u64 53, .int .i64 0, .int .i64 1, .bool n2, v2, .int .i64 (F + (tz N : Nat))]] w fun e' w' => ∃ z A zn, e' = .returned (.tuple #[z, .int .i64 A]) ∧ AddZ w' z A 53 0 zn (smV n1 (od M) (E + (tz M : Nat)) n2 (od N) (F + (tz N : Nat))) (min (E + (tz M : Nat)) (F + (tz N : Nat))) ∧ Below w.heap.size w w' := by
  obtain ⟨V, hV⟩ : ∃ V, V = smV n1 (od M) (E + (tz M : Nat)) n2 (od N) (F + (tz N : Nat)) := ⟨_, rfl⟩
  obtain ⟨X, hX⟩ : ∃ X, X = min (E + (tz M : Nat)) (F + (tz N : Nat)) := ⟨_, rfl⟩
  rw [← hV, ← hX]
  refine (did0 53 0 53 0 1 53 0 1 (fO V.natAbs) (rQ 53 0 (vN V) 0 V.natAbs) n1 n2 (if V = 0 then (if 1 = 1 then decide (0 = 4) else n1 && n2) else vN V) v1 v2 _ _ (X + rk 53 V.natAbs) (rA 53 0 (vN V) 0 V.natAbs) w h1.1.isS h2.1.isS (fun W hb => ?_)).mono ?_
  · have h := impAdd 53 1100 53 0 53 0 1 53 0 1 n1 n2 v1 v2 _ _ _ _ W (h1.1.below hb) (h2.1.below hb) h1.2 h2.2 (by decide) (by decide) (by decide) (by decide) (by decide) (by decide) (hT.below hb)
    rw [wv_wds, wv_wds] at h
    have hV' : V = smV (dyN 1 n1) (dyM 1 (od M)) (dyE 1 (E + (tz M : Nat))) (dyN 1 n2) (dyM 1 (od N)) (dyE 1 (F + (tz N : Nat))) := hV
    have hX' : X = min (dyE 1 (E + (tz M : Nat))) (dyE 1 (F + (tz N : Nat))) := hX
    rw [show pOf 53 (max 53 53) = 53 from rfl, ← hV', ← hX'] at h
    refine h.mono ?_
    rintro _ w' ⟨z, A, rfl, ⟨rfl, hz⟩, hb2⟩
    exact ⟨z, rfl, hz, hb2⟩
  · rintro _ w' ⟨z, rfl, hz, hb⟩
    exact ⟨z, _, _, rfl, ⟨rfl, hz⟩, hb⟩
theorem didAs_1 {n1 n2 : Bool} {M N : Nat} {E F : Int} {v1 v2 : Value} (w : World) (h1 : AsR w n1 M E v1) (h2 : AsR w n2 N F v2) (hT : TabW w)  :
    Calls Tryz.prog 29 #[.int .i64 1, .int .u64 53, .int .i64 0, .agg #[.int .u64 53, .int .i64 0, .int .i64 1, .bool n1, v1, .int .i64 (E + (tz M : Nat))], .agg #[.int .u64 53, .int .i64 0, .int .i64 1, .bool n2, v2, .int .i64 (F + (tz N : Nat))]] w fun e' w' => ∃ z A zn, e' = .returned (.tuple #[z, .int .i64 A]) ∧ AddZ w' z A 53 0 zn (smV n1 (od M) (E + (tz M : Nat)) (!n2) (od N) (F + (tz N : Nat))) (min (E + (tz M : Nat)) (F + (tz N : Nat))) ∧ Below w.heap.size w w' := by
  obtain ⟨V, hV⟩ : ∃ V, V = smV n1 (od M) (E + (tz M : Nat)) (!n2) (od N) (F + (tz N : Nat)) := ⟨_, rfl⟩
  obtain ⟨X, hX⟩ : ∃ X, X = min (E + (tz M : Nat)) (F + (tz N : Nat)) := ⟨_, rfl⟩
  rw [← hV, ← hX]
  refine (did1 53 0 53 0 1 53 0 1 (fO V.natAbs) (rQ 53 0 (vN V) 0 V.natAbs) n1 n2 (if V = 0 then (if 1 = 1 then decide (0 = 4) else n1 && (!n2)) else vN V) v1 v2 _ _ (X + rk 53 V.natAbs) (rA 53 0 (vN V) 0 V.natAbs) w h1.1.isS h2.1.isS (fun W hb => ?_)).mono ?_
  · have h := impSub 53 1100 53 0 53 0 1 53 0 1 n1 n2 v1 v2 _ _ _ _ W (h1.1.below hb) (h2.1.below hb) h1.2 h2.2 (by decide) (by decide) (by decide) (by decide) (by decide) (by decide) (.inl rfl) (hT.below hb)
    rw [wv_wds, wv_wds] at h
    have hV' : V = smV (dyN 1 n1) (dyM 1 (od M)) (dyE 1 (E + (tz M : Nat))) (!dyN 1 n2) (dyM 1 (od N)) (dyE 1 (F + (tz N : Nat))) := hV
    have hX' : X = min (dyE 1 (E + (tz M : Nat))) (dyE 1 (F + (tz N : Nat))) := hX
    rw [show pOf 53 (max 53 53) = 53 from rfl, ← hV', ← hX'] at h
    refine h.mono ?_
    rintro _ w' ⟨z, A, rfl, ⟨rfl, hz⟩, hb2⟩
    exact ⟨z, rfl, hz, hb2⟩
  · rintro _ w' ⟨z, rfl, hz, hb⟩
    exact ⟨z, _, _, rfl, ⟨rfl, hz⟩, hb⟩
theorem didAs_2 {n1 n2 : Bool} {M N : Nat} {E F : Int} {v1 v2 : Value} (w : World) (h1 : AsR w n1 M E v1) (h2 : AsR w n2 N F v2) (hT : TabW w) (hK : KarW w) :
    Calls Tryz.prog 29 #[.int .i64 2, .int .u64 53, .int .i64 0, .agg #[.int .u64 53, .int .i64 0, .int .i64 1, .bool n1, v1, .int .i64 (E + (tz M : Nat))], .agg #[.int .u64 53, .int .i64 0, .int .i64 1, .bool n2, v2, .int .i64 (F + (tz N : Nat))]] w fun e' w' => ∃ z A zn, e' = .returned (.tuple #[z, .int .i64 A]) ∧ AddZ w' z A 53 0 zn (sI (n1 != n2) (od M * od N)) (E + (tz M : Nat) + (F + (tz N : Nat))) ∧ Below w.heap.size w w' := by
  obtain ⟨V, hV⟩ : ∃ V, V = sI (n1 != n2) (od M * od N) := ⟨_, rfl⟩
  obtain ⟨X, hX⟩ : ∃ X, X = E + (tz M : Nat) + (F + (tz N : Nat)) := ⟨_, rfl⟩
  rw [← hV, ← hX]
  refine (did2 53 0 53 0 1 53 0 1 (fO V.natAbs) (rQ 53 0 (vN V) 0 V.natAbs) n1 n2 (if V = 0 then (n1 != n2) else vN V) v1 v2 _ _ (X + rk 53 V.natAbs) (rA 53 0 (vN V) 0 V.natAbs) w h1.1.isS h2.1.isS (fun W hb => ?_)).mono ?_
  · have h := impMul 53 1100 53 0 53 0 1 53 0 1 n1 n2 v1 v2 _ _ _ _ W (h1.1.below hb) (h2.1.below hb) h1.2 h2.2 (by decide) (by decide) (by decide) (by decide) (by decide) (by decide) (hT.below hb) (hK.below hb)
    rw [wv_wds, wv_wds] at h
    have hV' : V = sI (n1 != n2) (dyM 1 (od M) * dyM 1 (od N)) := hV
    have hX' : X = dyE 1 (E + (tz M : Nat)) + dyE 1 (F + (tz N : Nat)) := hX
    rw [show pOf 53 (max 53 53) = 53 from rfl, ← hV', ← hX'] at h
    refine h.mono ?_
    rintro _ w' ⟨z, A, rfl, ⟨rfl, hz⟩, hb2⟩
    exact ⟨z, rfl, hz, hb2⟩
  · rintro _ w' ⟨z, rfl, hz, hb⟩
    exact ⟨z, _, _, rfl, ⟨rfl, hz⟩, hb⟩
theorem didAs_3 {n1 n2 : Bool} {M N : Nat} {E F : Int} {v1 v2 : Value} (w : World) (h1 : AsR w n1 M E v1) (h2 : AsR w n2 N F v2) (hT : TabW w) (hD : DivW w) :
    Calls Tryz.prog 29 #[.int .i64 3, .int .u64 53, .int .i64 0, .agg #[.int .u64 53, .int .i64 0, .int .i64 1, .bool n1, v1, .int .i64 (E + (tz M : Nat))], .agg #[.int .u64 53, .int .i64 0, .int .i64 1, .bool n2, v2, .int .i64 (F + (tz N : Nat))]] w fun e' w' => ∃ z A zn, e' = .returned (.tuple #[z, .int .i64 A]) ∧ AddZ w' z A 53 0 zn (sI (n1 != n2) (quN 53 (od M) (od N))) (E + (tz M : Nat) - (F + (tz N : Nat)) - (quK 53 (od M) (od N) : Nat) - 1) ∧ Below w.heap.size w w' := by
  obtain ⟨V, hV⟩ : ∃ V, V = sI (n1 != n2) (quN 53 (od M) (od N)) := ⟨_, rfl⟩
  obtain ⟨X, hX⟩ : ∃ X, X = E + (tz M : Nat) - (F + (tz N : Nat)) - (quK 53 (od M) (od N) : Nat) - 1 := ⟨_, rfl⟩
  rw [← hV, ← hX]
  refine (did3 53 0 53 0 1 53 0 1 (fO V.natAbs) (rQ 53 0 (vN V) 0 V.natAbs) n1 n2 (if V = 0 then (n1 != n2) else vN V) v1 v2 _ _ (X + rk 53 V.natAbs) (rA 53 0 (vN V) 0 V.natAbs) w h1.1.isS h2.1.isS (fun W hb => ?_)).mono ?_
  · have h := impQuo 53 1100 53 0 53 0 1 53 0 1 n1 n2 v1 v2 _ _ _ _ W (h1.1.below hb) (h2.1.below hb) h1.2 h2.2 (by decide) rfl (by decide) (by decide) (by decide) (by decide) (hT.below hb) (hD.below hb)
    rw [wv_wds, wv_wds] at h
    have hV' : V = sI (n1 != n2) (quN 53 (dyM 1 (od M)) (od N)) := hV
    have hX' : X = dyE 1 (E + (tz M : Nat)) - (F + (tz N : Nat)) - (quK 53 (dyM 1 (od M)) (od N) : Nat) - 1 := hX
    rw [show pOf 53 (max 53 53) = 53 from rfl, ← hV', ← hX'] at h
    refine h.mono ?_
    rintro _ w' ⟨z, A, rfl, ⟨rfl, hz⟩, hb2⟩
    exact ⟨z, rfl, hz, hb2⟩
  · rintro _ w' ⟨z, rfl, hz, hb⟩
    exact ⟨z, _, _, rfl, ⟨rfl, hz⟩, hb⟩
set_option maxRecDepth 100000 in
set_option maxHeartbeats 3200000 in
theorem lawAs_0 (a0n a b : Nat) (w : World) (hT : TabW w) (hK : KarW w) (hD : DivW w) (ha : a < 18446744073709551616) (hb : b < 18446744073709551616) (q1 : (a0n : Int) % 4 = 0) :
    Calls Tryz.prog 7 #[.int .u8 a0n, .float .f64 a, .float .f64 b] w fun e w' => e = .returned (.bool true) ∧ Below w.heap.size w w' := by
  obtain ⟨c0, n0, hc0, hcb0, hcf0⟩ := fop_any .add (.inl rfl) 62 a b w
  obtain ⟨c, hcc⟩ : ∃ c, c = c0 := ⟨_, rfl⟩
  subst hcc
  have hc := hc0
  have hcb := hcb0
  have hcf := hcf0
  obtain ⟨W, hW⟩ : ∃ W, W = w.drewN n0 := ⟨_, rfl⟩
  have hbW : Below w.heap.size w W := by rw [hW]; exact undrewN' (Below.refl _ _)
  have HNA := Lib.hid (normal_any a W ha)
  have HNB := Lib.hid (normal_any b W hb)
  have HNC := Lib.hid (normal_any c W hcb)
  have HBW := Lib.hid hbW
  have HCF := Lib.hid hcf
  have HT := Lib.hid (hT.below hbW)
  have HK := Lib.hid (hK.below hbW)
  have HD := Lib.hid (hD.below hbW)
  have hWs := hbW.size
  clear hbW hcf hcf0 hT hK hD
  obtain ⟨fa, hfa⟩ : ∃ x, x = (decide (1 < xf a) && decide (xf a < 2047)) := ⟨_, rfl⟩
  obtain ⟨fb, hfb⟩ : ∃ x, x = (decide (1 < xf b) && decide (xf b < 2047)) := ⟨_, rfl⟩
  obtain ⟨fc, hfc⟩ : ∃ x, x = (decide (1 < xf c) && decide (xf c < 2047)) := ⟨_, rfl⟩
  rw [← hfa] at HNA
  rw [← hfb] at HNB
  rw [← hfc] at HNC
  have HFA := Lib.hid hfa
  have HFB := Lib.hid hfb
  have HFC := Lib.hid hfc
  clear hfa hfb hfc
  go_enter Tryz.func7, Tryz.ntmps7
  go_upto_region 10 with fail
  rw [← hW]
  clear hW hc0 hcb0
  clear hc
  go_wp2_with fail
  refine HNA.out.mono ?_
  rintro _ _ ⟨rfl, rfl⟩
  cases fa with
  | false =>
    go_wp2
    go_ret
    exact ⟨rfl, HBW.out⟩
  | true =>
  go_wp2_with fail
  refine HNB.out.mono ?_
  rintro _ _ ⟨rfl, rfl⟩
  cases fb with
  | false =>
    go_wp2
    go_ret
    exact ⟨rfl, HBW.out⟩
  | true =>
  go_wp2_with fail
  refine HNC.out.mono ?_
  rintro _ _ ⟨rfl, rfl⟩
  cases fc with
  | false =>
    go_wp2
    go_ret
    exact ⟨rfl, HBW.out⟩
  | true =>
  have NA : 1 < xf a ∧ xf a < 2047 := by have h := HFA.out.symm; rw [Bool.and_eq_true, decide_eq_true_iff, decide_eq_true_iff] at h; exact h
  have NB : 1 < xf b ∧ xf b < 2047 := by have h := HFB.out.symm; rw [Bool.and_eq_true, decide_eq_true_iff, decide_eq_true_iff] at h; exact h
  have NC : 1 < xf c ∧ xf c < 2047 := by have h := HFC.out.symm; rw [Bool.and_eq_true, decide_eq_true_iff, decide_eq_true_iff] at h; exact h
  obtain ⟨a1, a2, a3, a4, a5⟩ := norm_ob NA.1 NA.2
  obtain ⟨b1, b2, b3, b4, b5⟩ := norm_ob NB.1 NB.2
  have hop : floatBits .add .f64 a b = some c := by rcases HCF.out with h | h; exact h; omega
  have hok : AfOk (smV (obN a) (od (obM a)) (obE a + (tz (obM a) : Nat)) (obN b) (od (obM b)) (obE b + (tz (obM b) : Nat))) (min (obE a + (tz (obM a) : Nat)) (obE b + (tz (obM b) : Nat))) c := (af_ops ha hb a1 b1 a2 b2 NC.1 NC.2).1 hop
  have hoa := bl_od a2
  have hob := bl_od b2
  have hta := tz_le a2
  have htb := tz_le b2
  have hoa0 := bl_pos (od_pos a2)
  have hob0 := bl_pos (od_pos b2)
  have hVB : bl (smV (obN a) (od (obM a)) (obE a + (tz (obM a) : Nat)) (obN b) (od (obM b)) (obE b + (tz (obM b) : Nat))).natAbs ≤ 10000 := by
    have hb := smV_bl (obN a) (od (obM a)) (obE a + (tz (obM a) : Nat)) (obN b) (od (obM b)) (obE b + (tz (obM b) : Nat))
    omega
  have hXB : -10000 ≤ min (obE a + (tz (obM a) : Nat)) (obE b + (tz (obM b) : Nat)) ∧ min (obE a + (tz (obM a) : Nat)) (obE b + (tz (obM b) : Nat)) ≤ 10000 := by omega
  have HSA := Lib.hid (setF64_one a W ha NA.1 NA.2 HT.out)
  have HSB := Lib.hid (fun (W' : World) (h : Below W.heap.size W W') => setF64_one b W' hb NB.1 NB.2 (HT.out.below h))
  have HDI := Lib.hid (fun (v1 v2 : Value) (W' : World) (h : Below W.heap.size W W') (h1 : AsR W' (obN a) (obM a) (obE a) v1) (h2 : AsR W' (obN b) (obM b) (obE b) v2) => didAs_0 W' h1 h2 (HT.out.below h))
  obtain ⟨V, hV⟩ : ∃ V, V = smV (obN a) (od (obM a)) (obE a + (tz (obM a) : Nat)) (obN b) (od (obM b)) (obE b + (tz (obM b) : Nat)) := ⟨_, rfl⟩
  obtain ⟨X, hX⟩ : ∃ X, X = min (obE a + (tz (obM a) : Nat)) (obE b + (tz (obM b) : Nat)) := ⟨_, rfl⟩
  rw [← hV, ← hX] at hok
  rw [← hV] at hVB
  rw [← hX] at hXB
  simp only [← hV, ← hX] at HDI
  have HTO := Lib.hid (fun (w : World) (z : Value) (A : Int) (zn : Bool) (h : AddZ w z A 53 0 zn V X) => as_told hok h hXB hVB)
  obtain ⟨na, hna⟩ : ∃ x, x = obN a := ⟨_, rfl⟩
  obtain ⟨nb, hnb⟩ : ∃ x, x = obN b := ⟨_, rfl⟩
  obtain ⟨ea, hea⟩ : ∃ x, x = obE a + (tz (obM a) : Nat) := ⟨_, rfl⟩
  obtain ⟨eb, heb⟩ : ∃ x, x = obE b + (tz (obM b) : Nat) := ⟨_, rfl⟩
  obtain ⟨R1, hR1⟩ : ∃ R : World → Value → Prop, R = fun w' v => AsR w' (obN a) (obM a) (obE a) v := ⟨_, rfl⟩
  have HSA' : Hid (Calls Tryz.prog 32 #[.int .u64 53, .int .i64 0, .int .u64 a] W fun e' w' => ∃ v A, e' = .returned (.tuple #[.agg #[.int .u64 53, .int .i64 0, .int .i64 1, .bool na, v, .int .i64 ea], .int .i64 A]) ∧ IsS v ∧ AsR w' (obN a) (obM a) (obE a) v ∧ Below W.heap.size W w') := Lib.hid (by rw [hna, hea]; exact HSA.out)
  have HSB' : Hid (∀ W' : World, Below W.heap.size W W' → Calls Tryz.prog 32 #[.int .u64 53, .int .i64 0, .int .u64 b] W' fun e' w' => ∃ v A, e' = .returned (.tuple #[.agg #[.int .u64 53, .int .i64 0, .int .i64 1, .bool nb, v, .int .i64 eb], .int .i64 A]) ∧ IsS v ∧ AsR w' (obN b) (obM b) (obE b) v ∧ Below W'.heap.size W' w') := Lib.hid (by rw [hnb, heb]; exact HSB.out)
  have HDI' : Hid (∀ (v1 v2 : Value) (W' : World), Below W.heap.size W W' → AsR W' (obN a) (obM a) (obE a) v1 → AsR W' (obN b) (obM b) (obE b) v2 → Calls Tryz.prog 29 #[.int .i64 0, .int .u64 53, .int .i64 0, .agg #[.int .u64 53, .int .i64 0, .int .i64 1, .bool na, v1, .int .i64 ea], .agg #[.int .u64 53, .int .i64 0, .int .i64 1, .bool nb, v2, .int .i64 eb]] W' fun e' w' => ∃ z A zn, e' = .returned (.tuple #[z, .int .i64 A]) ∧ AddZ w' z A 53 0 zn V X ∧ Below W'.heap.size W' w') := Lib.hid (by rw [hna, hnb, hea, heb]; exact HDI.out)
  clear HSA HSB HDI hR1 R1 hna hnb hea heb hV hX hok hVB hXB hoa hob hta htb hoa0 hob0 hop a1 a2 a3 a4 a5 b1 b2 b3 b4 b5 NA NB NC
  go_wp2_with (simp only)
  refine HSA'.out.mono ?_
  rintro _ w1 ⟨v1, A1, rfl, hS1, hr1, hb1⟩
  have HR1 := Lib.hid hr1
  have HB1 := Lib.hid hb1
  clear hr1 hb1
  go_upto_region 13 with fail
  obtain ⟨Y, hY⟩ : ∃ Y, Y = w1.alloc (.cells #[.int .u64 53, .int .i64 0, .int .i64 1, .bool na, v1, .int .i64 ea] 42) := ⟨_, rfl⟩
  have hbY : Below w1.heap.size w1 Y := by rw [hY]; exact fbone _
  have hry : Y.heap[w1.heap.size]? = some (.cells #[.int .u64 53, .int .i64 0, .int .i64 1, .bool na, v1, .int .i64 ea] 42 (0, 0)) := by rw [hY]; exact heap_alloc_new _ _
  rw [← hY]
  have RY := Lib.hid hry
  have HBY := Lib.hid (bthen HB1.out hbY)
  have R1Y : Hid (AsR Y (obN a) (obM a) (obE a) v1) := Lib.hid ⟨HR1.out.1.below hbY, HR1.out.2⟩
  clear hY hbY hry HR1 HB1
  go_wp2_with (simp only [f64bits])
  refine (HSB'.out Y HBY.out).mono ?_
  rintro _ w2 ⟨v2, A2, rfl, hS2, hr2, hb2⟩
  have HR2 := Lib.hid hr2
  have HB2 := Lib.hid hb2
  clear hr2 hb2
  go_upto_region 14 with fail
  obtain ⟨Z, hZ⟩ : ∃ Z, Z = w2.alloc (.cells #[.int .u64 53, .int .i64 0, .int .i64 1, .bool nb, v2, .int .i64 eb] 42) := ⟨_, rfl⟩
  have hbZ : Below w2.heap.size w2 Z := by rw [hZ]; exact fbone _
  have hrz : Z.heap[w2.heap.size]? = some (.cells #[.int .u64 53, .int .i64 0, .int .i64 1, .bool nb, v2, .int .i64 eb] 42 (0, 0)) := by rw [hZ]; exact heap_alloc_new _ _
  rw [← hZ]
  have hYZ := bthen HB2.out hbZ
  have HBZ := Lib.hid (bthen HBY.out hYZ)
  have R1Z : Hid (AsR Z (obN a) (obM a) (obE a) v1) := Lib.hid ⟨R1Y.out.1.below hYZ, R1Y.out.2⟩
  have R2Z : Hid (AsR Z (obN b) (obM b) (obE b) v2) := Lib.hid ⟨HR2.out.1.below hbZ, HR2.out.2⟩
  obtain ⟨⟨x0, x1, x2, x3, x4, x5⟩, -⟩ := row6 (keep_row hYZ RY.out)
  obtain ⟨⟨y0, y1, y2, y3, y4, y5⟩, -⟩ := row6 hrz
  clear hZ hbZ hrz hYZ HR2 HB2 R1Y HBY RY
  go_wp2_with fail
  refine (HDI'.out v1 v2 Z HBZ.out R1Z.out R2Z.out).mono ?_
  rintro _ w3 ⟨z, A3, zn, rfl, hz, hb3⟩
  obtain ⟨v3, zs, Ez, rfl, hS3, hw3, hF⟩ := HTO.out w3 z A3 zn hz
  obtain ⟨sg, hsg⟩ : ∃ x, x = vN V := ⟨_, rfl⟩
  rw [← hsg] at hF
  rw [← hsg]
  have HF := Lib.hid hF
  have HW3 := Lib.hid hw3
  have HB3 := Lib.hid (bthen HBZ.out hb3)
  clear hsg hF hw3 hz hb3 x0 x1 x2 x3 x4 x5 y0 y1 y2 y3 y4 y5
  go_upto_region 17 with fail
  obtain ⟨Q, hQ⟩ : ∃ Q, Q = w3.alloc (.cells #[.int .u64 53, .int .i64 0, .int .i64 1, .bool sg, v3, .int .i64 Ez] 42) := ⟨_, rfl⟩
  have hbQ : Below w3.heap.size w3 Q := by rw [hQ]; exact fbone _
  have hrq : Q.heap[w3.heap.size]? = some (.cells #[.int .u64 53, .int .i64 0, .int .i64 1, .bool sg, v3, .int .i64 Ez] 42 (0, 0)) := by rw [hQ]; exact heap_alloc_new _ _
  rw [← hQ]
  have HBQ := Lib.hid (bthen HB3.out hbQ)
  have HWQ := Lib.hid (HW3.out.below hbQ)
  obtain ⟨⟨x0, x1, x2, x3, x4, x5⟩, -⟩ := row6 hrq
  clear hQ hbQ hrq HW3 HB3
  go_wp2_with fail
  refine (HF.out Q HWQ.out).mono ?_
  rintro _ w4 ⟨rfl, hb4⟩
  have HBE := Lib.hid (HBW.out.trans ((bthen HBQ.out hb4).mono hWs))
  clear hb4
  go_wp2_with (simp only)
  go_ret
  exact ⟨rfl, HBE.out⟩
set_option maxRecDepth 100000 in
set_option maxHeartbeats 3200000 in
theorem lawAs_1 (a0n a b : Nat) (w : World) (hT : TabW w) (hK : KarW w) (hD : DivW w) (ha : a < 18446744073709551616) (hb : b < 18446744073709551616) (q1 : (a0n : Int) % 4 = 1) :
    Calls Tryz.prog 7 #[.int .u8 a0n, .float .f64 a, .float .f64 b] w fun e w' => e = .returned (.bool true) ∧ Below w.heap.size w w' := by
  obtain ⟨c0, n0, hc0, hcb0, hcf0⟩ := fop_any .add (.inl rfl) 62 a b w
  obtain ⟨c, n1, hc, hcb, hcf⟩ := fop_any .sub (.inr (.inl rfl)) 62 a b (w.drewN n0)
  obtain ⟨W, hW⟩ : ∃ W, W = w.drewN (n0 + n1) := ⟨_, rfl⟩
  have hbW : Below w.heap.size w W := by rw [hW]; exact undrewN' (Below.refl _ _)
  have HNA := Lib.hid (normal_any a W ha)
  have HNB := Lib.hid (normal_any b W hb)
  have HNC := Lib.hid (normal_any c W hcb)
  have HBW := Lib.hid hbW
  have HCF := Lib.hid hcf
  have HT := Lib.hid (hT.below hbW)
  have HK := Lib.hid (hK.below hbW)
  have HD := Lib.hid (hD.below hbW)
  have hWs := hbW.size
  clear hbW hcf hcf0 hT hK hD
  obtain ⟨fa, hfa⟩ : ∃ x, x = (decide (1 < xf a) && decide (xf a < 2047)) := ⟨_, rfl⟩
  obtain ⟨fb, hfb⟩ : ∃ x, x = (decide (1 < xf b) && decide (xf b < 2047)) := ⟨_, rfl⟩
  obtain ⟨fc, hfc⟩ : ∃ x, x = (decide (1 < xf c) && decide (xf c < 2047)) := ⟨_, rfl⟩
  rw [← hfa] at HNA
  rw [← hfb] at HNB
  rw [← hfc] at HNC
  have HFA := Lib.hid hfa
  have HFB := Lib.hid hfb
  have HFC := Lib.hid hfc
  clear hfa hfb hfc
  go_enter Tryz.func7, Tryz.ntmps7
  go_upto_region 10 with fail
  rw [← hW]
  clear hW hc0 hcb0
  clear hc
  go_wp2_with fail
  refine HNA.out.mono ?_
  rintro _ _ ⟨rfl, rfl⟩
  cases fa with
  | false =>
    go_wp2
    go_ret
    exact ⟨rfl, HBW.out⟩
  | true =>
  go_wp2_with fail
  refine HNB.out.mono ?_
  rintro _ _ ⟨rfl, rfl⟩
  cases fb with
  | false =>
    go_wp2
    go_ret
    exact ⟨rfl, HBW.out⟩
  | true =>
  go_wp2_with fail
  refine HNC.out.mono ?_
  rintro _ _ ⟨rfl, rfl⟩
  cases fc with
  | false =>
    go_wp2
    go_ret
    exact ⟨rfl, HBW.out⟩
  | true =>
  have NA : 1 < xf a ∧ xf a < 2047 := by have h := HFA.out.symm; rw [Bool.and_eq_true, decide_eq_true_iff, decide_eq_true_iff] at h; exact h
  have NB : 1 < xf b ∧ xf b < 2047 := by have h := HFB.out.symm; rw [Bool.and_eq_true, decide_eq_true_iff, decide_eq_true_iff] at h; exact h
  have NC : 1 < xf c ∧ xf c < 2047 := by have h := HFC.out.symm; rw [Bool.and_eq_true, decide_eq_true_iff, decide_eq_true_iff] at h; exact h
  obtain ⟨a1, a2, a3, a4, a5⟩ := norm_ob NA.1 NA.2
  obtain ⟨b1, b2, b3, b4, b5⟩ := norm_ob NB.1 NB.2
  have hop : floatBits .sub .f64 a b = some c := by rcases HCF.out with h | h; exact h; omega
  have hok : AfOk (smV (obN a) (od (obM a)) (obE a + (tz (obM a) : Nat)) (!(obN b)) (od (obM b)) (obE b + (tz (obM b) : Nat))) (min (obE a + (tz (obM a) : Nat)) (obE b + (tz (obM b) : Nat))) c := (af_ops ha hb a1 b1 a2 b2 NC.1 NC.2).2.1 hop
  have hoa := bl_od a2
  have hob := bl_od b2
  have hta := tz_le a2
  have htb := tz_le b2
  have hoa0 := bl_pos (od_pos a2)
  have hob0 := bl_pos (od_pos b2)
  have hVB : bl (smV (obN a) (od (obM a)) (obE a + (tz (obM a) : Nat)) (!(obN b)) (od (obM b)) (obE b + (tz (obM b) : Nat))).natAbs ≤ 10000 := by
    have hb := smV_bl (obN a) (od (obM a)) (obE a + (tz (obM a) : Nat)) (!obN b) (od (obM b)) (obE b + (tz (obM b) : Nat))
    omega
  have hXB : -10000 ≤ min (obE a + (tz (obM a) : Nat)) (obE b + (tz (obM b) : Nat)) ∧ min (obE a + (tz (obM a) : Nat)) (obE b + (tz (obM b) : Nat)) ≤ 10000 := by omega
  have HSA := Lib.hid (setF64_one a W ha NA.1 NA.2 HT.out)
  have HSB := Lib.hid (fun (W' : World) (h : Below W.heap.size W W') => setF64_one b W' hb NB.1 NB.2 (HT.out.below h))
  have HDI := Lib.hid (fun (v1 v2 : Value) (W' : World) (h : Below W.heap.size W W') (h1 : AsR W' (obN a) (obM a) (obE a) v1) (h2 : AsR W' (obN b) (obM b) (obE b) v2) => didAs_1 W' h1 h2 (HT.out.below h))
  obtain ⟨V, hV⟩ : ∃ V, V = smV (obN a) (od (obM a)) (obE a + (tz (obM a) : Nat)) (!(obN b)) (od (obM b)) (obE b + (tz (obM b) : Nat)) := ⟨_, rfl⟩
  obtain ⟨X, hX⟩ : ∃ X, X = min (obE a + (tz (obM a) : Nat)) (obE b + (tz (obM b) : Nat)) := ⟨_, rfl⟩
  rw [← hV, ← hX] at hok
  rw [← hV] at hVB
  rw [← hX] at hXB
  simp only [← hV, ← hX] at HDI
  have HTO := Lib.hid (fun (w : World) (z : Value) (A : Int) (zn : Bool) (h : AddZ w z A 53 0 zn V X) => as_told hok h hXB hVB)
  obtain ⟨na, hna⟩ : ∃ x, x = obN a := ⟨_, rfl⟩
  obtain ⟨nb, hnb⟩ : ∃ x, x = obN b := ⟨_, rfl⟩
  obtain ⟨ea, hea⟩ : ∃ x, x = obE a + (tz (obM a) : Nat) := ⟨_, rfl⟩
  obtain ⟨eb, heb⟩ : ∃ x, x = obE b + (tz (obM b) : Nat) := ⟨_, rfl⟩
  obtain ⟨R1, hR1⟩ : ∃ R : World → Value → Prop, R = fun w' v => AsR w' (obN a) (obM a) (obE a) v := ⟨_, rfl⟩
  have HSA' : Hid (Calls Tryz.prog 32 #[.int .u64 53, .int .i64 0, .int .u64 a] W fun e' w' => ∃ v A, e' = .returned (.tuple #[.agg #[.int .u64 53, .int .i64 0, .int .i64 1, .bool na, v, .int .i64 ea], .int .i64 A]) ∧ IsS v ∧ AsR w' (obN a) (obM a) (obE a) v ∧ Below W.heap.size W w') := Lib.hid (by rw [hna, hea]; exact HSA.out)
  have HSB' : Hid (∀ W' : World, Below W.heap.size W W' → Calls Tryz.prog 32 #[.int .u64 53, .int .i64 0, .int .u64 b] W' fun e' w' => ∃ v A, e' = .returned (.tuple #[.agg #[.int .u64 53, .int .i64 0, .int .i64 1, .bool nb, v, .int .i64 eb], .int .i64 A]) ∧ IsS v ∧ AsR w' (obN b) (obM b) (obE b) v ∧ Below W'.heap.size W' w') := Lib.hid (by rw [hnb, heb]; exact HSB.out)
  have HDI' : Hid (∀ (v1 v2 : Value) (W' : World), Below W.heap.size W W' → AsR W' (obN a) (obM a) (obE a) v1 → AsR W' (obN b) (obM b) (obE b) v2 → Calls Tryz.prog 29 #[.int .i64 1, .int .u64 53, .int .i64 0, .agg #[.int .u64 53, .int .i64 0, .int .i64 1, .bool na, v1, .int .i64 ea], .agg #[.int .u64 53, .int .i64 0, .int .i64 1, .bool nb, v2, .int .i64 eb]] W' fun e' w' => ∃ z A zn, e' = .returned (.tuple #[z, .int .i64 A]) ∧ AddZ w' z A 53 0 zn V X ∧ Below W'.heap.size W' w') := Lib.hid (by rw [hna, hnb, hea, heb]; exact HDI.out)
  clear HSA HSB HDI hR1 R1 hna hnb hea heb hV hX hok hVB hXB hoa hob hta htb hoa0 hob0 hop a1 a2 a3 a4 a5 b1 b2 b3 b4 b5 NA NB NC
  go_wp2_with (simp only)
  refine HSA'.out.mono ?_
  rintro _ w1 ⟨v1, A1, rfl, hS1, hr1, hb1⟩
  have HR1 := Lib.hid hr1
  have HB1 := Lib.hid hb1
  clear hr1 hb1
  go_upto_region 13 with fail
  obtain ⟨Y, hY⟩ : ∃ Y, Y = w1.alloc (.cells #[.int .u64 53, .int .i64 0, .int .i64 1, .bool na, v1, .int .i64 ea] 42) := ⟨_, rfl⟩
  have hbY : Below w1.heap.size w1 Y := by rw [hY]; exact fbone _
  have hry : Y.heap[w1.heap.size]? = some (.cells #[.int .u64 53, .int .i64 0, .int .i64 1, .bool na, v1, .int .i64 ea] 42 (0, 0)) := by rw [hY]; exact heap_alloc_new _ _
  rw [← hY]
  have RY := Lib.hid hry
  have HBY := Lib.hid (bthen HB1.out hbY)
  have R1Y : Hid (AsR Y (obN a) (obM a) (obE a) v1) := Lib.hid ⟨HR1.out.1.below hbY, HR1.out.2⟩
  clear hY hbY hry HR1 HB1
  go_wp2_with (simp only [f64bits])
  refine (HSB'.out Y HBY.out).mono ?_
  rintro _ w2 ⟨v2, A2, rfl, hS2, hr2, hb2⟩
  have HR2 := Lib.hid hr2
  have HB2 := Lib.hid hb2
  clear hr2 hb2
  go_upto_region 14 with fail
  obtain ⟨Z, hZ⟩ : ∃ Z, Z = w2.alloc (.cells #[.int .u64 53, .int .i64 0, .int .i64 1, .bool nb, v2, .int .i64 eb] 42) := ⟨_, rfl⟩
  have hbZ : Below w2.heap.size w2 Z := by rw [hZ]; exact fbone _
  have hrz : Z.heap[w2.heap.size]? = some (.cells #[.int .u64 53, .int .i64 0, .int .i64 1, .bool nb, v2, .int .i64 eb] 42 (0, 0)) := by rw [hZ]; exact heap_alloc_new _ _
  rw [← hZ]
  have hYZ := bthen HB2.out hbZ
  have HBZ := Lib.hid (bthen HBY.out hYZ)
  have R1Z : Hid (AsR Z (obN a) (obM a) (obE a) v1) := Lib.hid ⟨R1Y.out.1.below hYZ, R1Y.out.2⟩
  have R2Z : Hid (AsR Z (obN b) (obM b) (obE b) v2) := Lib.hid ⟨HR2.out.1.below hbZ, HR2.out.2⟩
  obtain ⟨⟨x0, x1, x2, x3, x4, x5⟩, -⟩ := row6 (keep_row hYZ RY.out)
  obtain ⟨⟨y0, y1, y2, y3, y4, y5⟩, -⟩ := row6 hrz
  clear hZ hbZ hrz hYZ HR2 HB2 R1Y HBY RY
  go_wp2_with fail
  refine (HDI'.out v1 v2 Z HBZ.out R1Z.out R2Z.out).mono ?_
  rintro _ w3 ⟨z, A3, zn, rfl, hz, hb3⟩
  obtain ⟨v3, zs, Ez, rfl, hS3, hw3, hF⟩ := HTO.out w3 z A3 zn hz
  obtain ⟨sg, hsg⟩ : ∃ x, x = vN V := ⟨_, rfl⟩
  rw [← hsg] at hF
  rw [← hsg]
  have HF := Lib.hid hF
  have HW3 := Lib.hid hw3
  have HB3 := Lib.hid (bthen HBZ.out hb3)
  clear hsg hF hw3 hz hb3 x0 x1 x2 x3 x4 x5 y0 y1 y2 y3 y4 y5
  go_upto_region 17 with fail
  obtain ⟨Q, hQ⟩ : ∃ Q, Q = w3.alloc (.cells #[.int .u64 53, .int .i64 0, .int .i64 1, .bool sg, v3, .int .i64 Ez] 42) := ⟨_, rfl⟩
  have hbQ : Below w3.heap.size w3 Q := by rw [hQ]; exact fbone _
  have hrq : Q.heap[w3.heap.size]? = some (.cells #[.int .u64 53, .int .i64 0, .int .i64 1, .bool sg, v3, .int .i64 Ez] 42 (0, 0)) := by rw [hQ]; exact heap_alloc_new _ _
  rw [← hQ]
  have HBQ := Lib.hid (bthen HB3.out hbQ)
  have HWQ := Lib.hid (HW3.out.below hbQ)
  obtain ⟨⟨x0, x1, x2, x3, x4, x5⟩, -⟩ := row6 hrq
  clear hQ hbQ hrq HW3 HB3
  go_wp2_with fail
  refine (HF.out Q HWQ.out).mono ?_
  rintro _ w4 ⟨rfl, hb4⟩
  have HBE := Lib.hid (HBW.out.trans ((bthen HBQ.out hb4).mono hWs))
  clear hb4
  go_wp2_with (simp only)
  go_ret
  exact ⟨rfl, HBE.out⟩
set_option maxRecDepth 100000 in
set_option maxHeartbeats 3200000 in
theorem lawAs_2 (a0n a b : Nat) (w : World) (hT : TabW w) (hK : KarW w) (hD : DivW w) (ha : a < 18446744073709551616) (hb : b < 18446744073709551616) (q1 : (a0n : Int) % 4 = 2) :
    Calls Tryz.prog 7 #[.int .u8 a0n, .float .f64 a, .float .f64 b] w fun e w' => e = .returned (.bool true) ∧ Below w.heap.size w w' := by
  obtain ⟨c0, n0, hc0, hcb0, hcf0⟩ := fop_any .add (.inl rfl) 62 a b w
  obtain ⟨c, n1, hc, hcb, hcf⟩ := fop_any .mul (.inr (.inr (.inl rfl))) 62 a b (w.drewN n0)
  obtain ⟨W, hW⟩ : ∃ W, W = w.drewN (n0 + n1) := ⟨_, rfl⟩
  have hbW : Below w.heap.size w W := by rw [hW]; exact undrewN' (Below.refl _ _)
  have HNA := Lib.hid (normal_any a W ha)
  have HNB := Lib.hid (normal_any b W hb)
  have HNC := Lib.hid (normal_any c W hcb)
  have HBW := Lib.hid hbW
  have HCF := Lib.hid hcf
  have HT := Lib.hid (hT.below hbW)
  have HK := Lib.hid (hK.below hbW)
  have HD := Lib.hid (hD.below hbW)
  have hWs := hbW.size
  clear hbW hcf hcf0 hT hK hD
  obtain ⟨fa, hfa⟩ : ∃ x, x = (decide (1 < xf a) && decide (xf a < 2047)) := ⟨_, rfl⟩
  obtain ⟨fb, hfb⟩ : ∃ x, x = (decide (1 < xf b) && decide (xf b < 2047)) := ⟨_, rfl⟩
  obtain ⟨fc, hfc⟩ : ∃ x, x = (decide (1 < xf c) && decide (xf c < 2047)) := ⟨_, rfl⟩
  rw [← hfa] at HNA
  rw [← hfb] at HNB
  rw [← hfc] at HNC
  have HFA := Lib.hid hfa
  have HFB := Lib.hid hfb
  have HFC := Lib.hid hfc
  clear hfa hfb hfc
  go_enter Tryz.func7, Tryz.ntmps7
  go_upto_region 10 with fail
  rw [← hW]
  clear hW hc0 hcb0
  clear hc
  go_wp2_with fail
  refine HNA.out.mono ?_
  rintro _ _ ⟨rfl, rfl⟩
  cases fa with
  | false =>
    go_wp2
    go_ret
    exact ⟨rfl, HBW.out⟩
  | true =>
  go_wp2_with fail
  refine HNB.out.mono ?_
  rintro _ _ ⟨rfl, rfl⟩
  cases fb with
  | false =>
    go_wp2
    go_ret
    exact ⟨rfl, HBW.out⟩
  | true =>
  go_wp2_with fail
  refine HNC.out.mono ?_
  rintro _ _ ⟨rfl, rfl⟩
  cases fc with
  | false =>
    go_wp2
    go_ret
    exact ⟨rfl, HBW.out⟩
  | true =>
  have NA : 1 < xf a ∧ xf a < 2047 := by have h := HFA.out.symm; rw [Bool.and_eq_true, decide_eq_true_iff, decide_eq_true_iff] at h; exact h
  have NB : 1 < xf b ∧ xf b < 2047 := by have h := HFB.out.symm; rw [Bool.and_eq_true, decide_eq_true_iff, decide_eq_true_iff] at h; exact h
  have NC : 1 < xf c ∧ xf c < 2047 := by have h := HFC.out.symm; rw [Bool.and_eq_true, decide_eq_true_iff, decide_eq_true_iff] at h; exact h
  obtain ⟨a1, a2, a3, a4, a5⟩ := norm_ob NA.1 NA.2
  obtain ⟨b1, b2, b3, b4, b5⟩ := norm_ob NB.1 NB.2
  have hop : floatBits .mul .f64 a b = some c := by rcases HCF.out with h | h; exact h; omega
  have hok : AfOk (sI ((obN a) != (obN b)) (od (obM a) * od (obM b))) (obE a + (tz (obM a) : Nat) + (obE b + (tz (obM b) : Nat))) c := (af_ops ha hb a1 b1 a2 b2 NC.1 NC.2).2.2.1 hop
  have hoa := bl_od a2
  have hob := bl_od b2
  have hta := tz_le a2
  have htb := tz_le b2
  have hoa0 := bl_pos (od_pos a2)
  have hob0 := bl_pos (od_pos b2)
  have hVB : bl (sI ((obN a) != (obN b)) (od (obM a) * od (obM b))).natAbs ≤ 10000 := by
    rw [natAbs_sI]
    have hb := bl_prod hoa0 hob0 rfl rfl
    omega
  have hXB : -10000 ≤ obE a + (tz (obM a) : Nat) + (obE b + (tz (obM b) : Nat)) ∧ obE a + (tz (obM a) : Nat) + (obE b + (tz (obM b) : Nat)) ≤ 10000 := by omega
  have HSA := Lib.hid (setF64_one a W ha NA.1 NA.2 HT.out)
  have HSB := Lib.hid (fun (W' : World) (h : Below W.heap.size W W') => setF64_one b W' hb NB.1 NB.2 (HT.out.below h))
  have HDI := Lib.hid (fun (v1 v2 : Value) (W' : World) (h : Below W.heap.size W W') (h1 : AsR W' (obN a) (obM a) (obE a) v1) (h2 : AsR W' (obN b) (obM b) (obE b) v2) => didAs_2 W' h1 h2 (HT.out.below h) (HK.out.below h))
  obtain ⟨V, hV⟩ : ∃ V, V = sI ((obN a) != (obN b)) (od (obM a) * od (obM b)) := ⟨_, rfl⟩
  obtain ⟨X, hX⟩ : ∃ X, X = obE a + (tz (obM a) : Nat) + (obE b + (tz (obM b) : Nat)) := ⟨_, rfl⟩
  rw [← hV, ← hX] at hok
  rw [← hV] at hVB
  rw [← hX] at hXB
  simp only [← hV, ← hX] at HDI
  have HTO := Lib.hid (fun (w : World) (z : Value) (A : Int) (zn : Bool) (h : AddZ w z A 53 0 zn V X) => as_told hok h hXB hVB)
  obtain ⟨na, hna⟩ : ∃ x, x = obN a := ⟨_, rfl⟩
  obtain ⟨nb, hnb⟩ : ∃ x, x = obN b := ⟨_, rfl⟩
  obtain ⟨ea, hea⟩ : ∃ x, x = obE a + (tz (obM a) : Nat) := ⟨_, rfl⟩
  obtain ⟨eb, heb⟩ : ∃ x, x = obE b + (tz (obM b) : Nat) := ⟨_, rfl⟩
  obtain ⟨R1, hR1⟩ : ∃ R : World → Value → Prop, R = fun w' v => AsR w' (obN a) (obM a) (obE a) v := ⟨_, rfl⟩
  have HSA' : Hid (Calls Tryz.prog 32 #[.int .u64 53, .int .i64 0, .int .u64 a] W fun e' w' => ∃ v A, e' = .returned (.tuple #[.agg #[.int .u64 53, .int .i64 0, .int .i64 1, .bool na, v, .int .i64 ea], .int .i64 A]) ∧ IsS v ∧ AsR w' (obN a) (obM a) (obE a) v ∧ Below W.heap.size W w') := Lib.hid (by rw [hna, hea]; exact HSA.out)
  have HSB' : Hid (∀ W' : World, Below W.heap.size W W' → Calls Tryz.prog 32 #[.int .u64 53, .int .i64 0, .int .u64 b] W' fun e' w' => ∃ v A, e' = .returned (.tuple #[.agg #[.int .u64 53, .int .i64 0, .int .i64 1, .bool nb, v, .int .i64 eb], .int .i64 A]) ∧ IsS v ∧ AsR w' (obN b) (obM b) (obE b) v ∧ Below W'.heap.size W' w') := Lib.hid (by rw [hnb, heb]; exact HSB.out)
  have HDI' : Hid (∀ (v1 v2 : Value) (W' : World), Below W.heap.size W W' → AsR W' (obN a) (obM a) (obE a) v1 → AsR W' (obN b) (obM b) (obE b) v2 → Calls Tryz.prog 29 #[.int .i64 2, .int .u64 53, .int .i64 0, .agg #[.int .u64 53, .int .i64 0, .int .i64 1, .bool na, v1, .int .i64 ea], .agg #[.int .u64 53, .int .i64 0, .int .i64 1, .bool nb, v2, .int .i64 eb]] W' fun e' w' => ∃ z A zn, e' = .returned (.tuple #[z, .int .i64 A]) ∧ AddZ w' z A 53 0 zn V X ∧ Below W'.heap.size W' w') := Lib.hid (by rw [hna, hnb, hea, heb]; exact HDI.out)
  clear HSA HSB HDI hR1 R1 hna hnb hea heb hV hX hok hVB hXB hoa hob hta htb hoa0 hob0 hop a1 a2 a3 a4 a5 b1 b2 b3 b4 b5 NA NB NC
  go_wp2_with (simp only)
  refine HSA'.out.mono ?_
  rintro _ w1 ⟨v1, A1, rfl, hS1, hr1, hb1⟩
  have HR1 := Lib.hid hr1
  have HB1 := Lib.hid hb1
  clear hr1 hb1
  go_upto_region 13 with fail
  obtain ⟨Y, hY⟩ : ∃ Y, Y = w1.alloc (.cells #[.int .u64 53, .int .i64 0, .int .i64 1, .bool na, v1, .int .i64 ea] 42) := ⟨_, rfl⟩
  have hbY : Below w1.heap.size w1 Y := by rw [hY]; exact fbone _
  have hry : Y.heap[w1.heap.size]? = some (.cells #[.int .u64 53, .int .i64 0, .int .i64 1, .bool na, v1, .int .i64 ea] 42 (0, 0)) := by rw [hY]; exact heap_alloc_new _ _
  rw [← hY]
  have RY := Lib.hid hry
  have HBY := Lib.hid (bthen HB1.out hbY)
  have R1Y : Hid (AsR Y (obN a) (obM a) (obE a) v1) := Lib.hid ⟨HR1.out.1.below hbY, HR1.out.2⟩
  clear hY hbY hry HR1 HB1
  go_wp2_with (simp only [f64bits])
  refine (HSB'.out Y HBY.out).mono ?_
  rintro _ w2 ⟨v2, A2, rfl, hS2, hr2, hb2⟩
  have HR2 := Lib.hid hr2
  have HB2 := Lib.hid hb2
  clear hr2 hb2
  go_upto_region 14 with fail
  obtain ⟨Z, hZ⟩ : ∃ Z, Z = w2.alloc (.cells #[.int .u64 53, .int .i64 0, .int .i64 1, .bool nb, v2, .int .i64 eb] 42) := ⟨_, rfl⟩
  have hbZ : Below w2.heap.size w2 Z := by rw [hZ]; exact fbone _
  have hrz : Z.heap[w2.heap.size]? = some (.cells #[.int .u64 53, .int .i64 0, .int .i64 1, .bool nb, v2, .int .i64 eb] 42 (0, 0)) := by rw [hZ]; exact heap_alloc_new _ _
  rw [← hZ]
  have hYZ := bthen HB2.out hbZ
  have HBZ := Lib.hid (bthen HBY.out hYZ)
  have R1Z : Hid (AsR Z (obN a) (obM a) (obE a) v1) := Lib.hid ⟨R1Y.out.1.below hYZ, R1Y.out.2⟩
  have R2Z : Hid (AsR Z (obN b) (obM b) (obE b) v2) := Lib.hid ⟨HR2.out.1.below hbZ, HR2.out.2⟩
  obtain ⟨⟨x0, x1, x2, x3, x4, x5⟩, -⟩ := row6 (keep_row hYZ RY.out)
  obtain ⟨⟨y0, y1, y2, y3, y4, y5⟩, -⟩ := row6 hrz
  clear hZ hbZ hrz hYZ HR2 HB2 R1Y HBY RY
  go_wp2_with fail
  refine (HDI'.out v1 v2 Z HBZ.out R1Z.out R2Z.out).mono ?_
  rintro _ w3 ⟨z, A3, zn, rfl, hz, hb3⟩
  obtain ⟨v3, zs, Ez, rfl, hS3, hw3, hF⟩ := HTO.out w3 z A3 zn hz
  obtain ⟨sg, hsg⟩ : ∃ x, x = vN V := ⟨_, rfl⟩
  rw [← hsg] at hF
  rw [← hsg]
  have HF := Lib.hid hF
  have HW3 := Lib.hid hw3
  have HB3 := Lib.hid (bthen HBZ.out hb3)
  clear hsg hF hw3 hz hb3 x0 x1 x2 x3 x4 x5 y0 y1 y2 y3 y4 y5
  go_upto_region 17 with fail
  obtain ⟨Q, hQ⟩ : ∃ Q, Q = w3.alloc (.cells #[.int .u64 53, .int .i64 0, .int .i64 1, .bool sg, v3, .int .i64 Ez] 42) := ⟨_, rfl⟩
  have hbQ : Below w3.heap.size w3 Q := by rw [hQ]; exact fbone _
  have hrq : Q.heap[w3.heap.size]? = some (.cells #[.int .u64 53, .int .i64 0, .int .i64 1, .bool sg, v3, .int .i64 Ez] 42 (0, 0)) := by rw [hQ]; exact heap_alloc_new _ _
  rw [← hQ]
  have HBQ := Lib.hid (bthen HB3.out hbQ)
  have HWQ := Lib.hid (HW3.out.below hbQ)
  obtain ⟨⟨x0, x1, x2, x3, x4, x5⟩, -⟩ := row6 hrq
  clear hQ hbQ hrq HW3 HB3
  go_wp2_with fail
  refine (HF.out Q HWQ.out).mono ?_
  rintro _ w4 ⟨rfl, hb4⟩
  have HBE := Lib.hid (HBW.out.trans ((bthen HBQ.out hb4).mono hWs))
  clear hb4
  go_wp2_with (simp only)
  go_ret
  exact ⟨rfl, HBE.out⟩
set_option maxRecDepth 100000 in
set_option maxHeartbeats 3200000 in
theorem lawAs_3 (a0n a b : Nat) (w : World) (hT : TabW w) (hK : KarW w) (hD : DivW w) (ha : a < 18446744073709551616) (hb : b < 18446744073709551616) (q1 : (a0n : Int) % 4 = 3) :
    Calls Tryz.prog 7 #[.int .u8 a0n, .float .f64 a, .float .f64 b] w fun e w' => e = .returned (.bool true) ∧ Below w.heap.size w w' := by
  obtain ⟨c0, n0, hc0, hcb0, hcf0⟩ := fop_any .add (.inl rfl) 62 a b w
  obtain ⟨c, n1, hc, hcb, hcf⟩ := fop_any .quo (.inr (.inr (.inr rfl))) 62 a b (w.drewN n0)
  obtain ⟨W, hW⟩ : ∃ W, W = w.drewN (n0 + n1) := ⟨_, rfl⟩
  have hbW : Below w.heap.size w W := by rw [hW]; exact undrewN' (Below.refl _ _)
  have HNA := Lib.hid (normal_any a W ha)
  have HNB := Lib.hid (normal_any b W hb)
  have HNC := Lib.hid (normal_any c W hcb)
  have HBW := Lib.hid hbW
  have HCF := Lib.hid hcf
  have HT := Lib.hid (hT.below hbW)
  have HK := Lib.hid (hK.below hbW)
  have HD := Lib.hid (hD.below hbW)
  have hWs := hbW.size
  clear hbW hcf hcf0 hT hK hD
  obtain ⟨fa, hfa⟩ : ∃ x, x = (decide (1 < xf a) && decide (xf a < 2047)) := ⟨_, rfl⟩
  obtain ⟨fb, hfb⟩ : ∃ x, x = (decide (1 < xf b) && decide (xf b < 2047)) := ⟨_, rfl⟩
  obtain ⟨fc, hfc⟩ : ∃ x, x = (decide (1 < xf c) && decide (xf c < 2047)) := ⟨_, rfl⟩
  rw [← hfa] at HNA
  rw [← hfb] at HNB
  rw [← hfc] at HNC
  have HFA := Lib.hid hfa
  have HFB := Lib.hid hfb
  have HFC := Lib.hid hfc
  clear hfa hfb hfc
  go_enter Tryz.func7, Tryz.ntmps7
  go_upto_region 10 with fail
  rw [← hW]
  clear hW hc0 hcb0
  clear hc
  go_wp2_with fail
  refine HNA.out.mono ?_
  rintro _ _ ⟨rfl, rfl⟩
  cases fa with
  | false =>
    go_wp2
    go_ret
    exact ⟨rfl, HBW.out⟩
  | true =>
  go_wp2_with fail
  refine HNB.out.mono ?_
  rintro _ _ ⟨rfl, rfl⟩
  cases fb with
  | false =>
    go_wp2
    go_ret
    exact ⟨rfl, HBW.out⟩
  | true =>
  go_wp2_with fail
  refine HNC.out.mono ?_
  rintro _ _ ⟨rfl, rfl⟩
  cases fc with
  | false =>
    go_wp2
    go_ret
    exact ⟨rfl, HBW.out⟩
  | true =>
  have NA : 1 < xf a ∧ xf a < 2047 := by have h := HFA.out.symm; rw [Bool.and_eq_true, decide_eq_true_iff, decide_eq_true_iff] at h; exact h
  have NB : 1 < xf b ∧ xf b < 2047 := by have h := HFB.out.symm; rw [Bool.and_eq_true, decide_eq_true_iff, decide_eq_true_iff] at h; exact h
  have NC : 1 < xf c ∧ xf c < 2047 := by have h := HFC.out.symm; rw [Bool.and_eq_true, decide_eq_true_iff, decide_eq_true_iff] at h; exact h
  obtain ⟨a1, a2, a3, a4, a5⟩ := norm_ob NA.1 NA.2
  obtain ⟨b1, b2, b3, b4, b5⟩ := norm_ob NB.1 NB.2
  have hop : floatBits .quo .f64 a b = some c := by rcases HCF.out with h | h; exact h; omega
  have hok : AfOk (sI ((obN a) != (obN b)) (quN 53 (od (obM a)) (od (obM b)))) (obE a + (tz (obM a) : Nat) - (obE b + (tz (obM b) : Nat)) - (quK 53 (od (obM a)) (od (obM b)) : Nat) - 1) c := (af_ops ha hb a1 b1 a2 b2 NC.1 NC.2).2.2.2 hop
  have hoa := bl_od a2
  have hob := bl_od b2
  have hta := tz_le a2
  have htb := tz_le b2
  have hoa0 := bl_pos (od_pos a2)
  have hob0 := bl_pos (od_pos b2)
  have hVB : bl (sI ((obN a) != (obN b)) (quN 53 (od (obM a)) (od (obM b)))).natAbs ≤ 10000 := by
    rw [natAbs_sI]
    have hb := bl_quN (a := od (obM a)) (b := od (obM b)) (q := 53) (od_pos b2)
    unfold quK at hb
    omega
  have hXB : -10000 ≤ obE a + (tz (obM a) : Nat) - (obE b + (tz (obM b) : Nat)) - (quK 53 (od (obM a)) (od (obM b)) : Nat) - 1 ∧ obE a + (tz (obM a) : Nat) - (obE b + (tz (obM b) : Nat)) - (quK 53 (od (obM a)) (od (obM b)) : Nat) - 1 ≤ 10000 := by unfold quK; omega
  have HSA := Lib.hid (setF64_one a W ha NA.1 NA.2 HT.out)
  have HSB := Lib.hid (fun (W' : World) (h : Below W.heap.size W W') => setF64_one b W' hb NB.1 NB.2 (HT.out.below h))
  have HDI := Lib.hid (fun (v1 v2 : Value) (W' : World) (h : Below W.heap.size W W') (h1 : AsR W' (obN a) (obM a) (obE a) v1) (h2 : AsR W' (obN b) (obM b) (obE b) v2) => didAs_3 W' h1 h2 (HT.out.below h) (HD.out.below h))
  obtain ⟨V, hV⟩ : ∃ V, V = sI ((obN a) != (obN b)) (quN 53 (od (obM a)) (od (obM b))) := ⟨_, rfl⟩
  obtain ⟨X, hX⟩ : ∃ X, X = obE a + (tz (obM a) : Nat) - (obE b + (tz (obM b) : Nat)) - (quK 53 (od (obM a)) (od (obM b)) : Nat) - 1 := ⟨_, rfl⟩
  rw [← hV, ← hX] at hok
  rw [← hV] at hVB
  rw [← hX] at hXB
  simp only [← hV, ← hX] at HDI
  have HTO := Lib.hid (fun (w : World) (z : Value) (A : Int) (zn : Bool) (h : AddZ w z A 53 0 zn V X) => as_told hok h hXB hVB)
  obtain ⟨na, hna⟩ : ∃ x, x = obN a := ⟨_, rfl⟩
  obtain ⟨nb, hnb⟩ : ∃ x, x = obN b := ⟨_, rfl⟩
  obtain ⟨ea, hea⟩ : ∃ x, x = obE a + (tz (obM a) : Nat) := ⟨_, rfl⟩
  obtain ⟨eb, heb⟩ : ∃ x, x = obE b + (tz (obM b) : Nat) := ⟨_, rfl⟩
  obtain ⟨R1, hR1⟩ : ∃ R : World → Value → Prop, R = fun w' v => AsR w' (obN a) (obM a) (obE a) v := ⟨_, rfl⟩
  have HSA' : Hid (Calls Tryz.prog 32 #[.int .u64 53, .int .i64 0, .int .u64 a] W fun e' w' => ∃ v A, e' = .returned (.tuple #[.agg #[.int .u64 53, .int .i64 0, .int .i64 1, .bool na, v, .int .i64 ea], .int .i64 A]) ∧ IsS v ∧ AsR w' (obN a) (obM a) (obE a) v ∧ Below W.heap.size W w') := Lib.hid (by rw [hna, hea]; exact HSA.out)
  have HSB' : Hid (∀ W' : World, Below W.heap.size W W' → Calls Tryz.prog 32 #[.int .u64 53, .int .i64 0, .int .u64 b] W' fun e' w' => ∃ v A, e' = .returned (.tuple #[.agg #[.int .u64 53, .int .i64 0, .int .i64 1, .bool nb, v, .int .i64 eb], .int .i64 A]) ∧ IsS v ∧ AsR w' (obN b) (obM b) (obE b) v ∧ Below W'.heap.size W' w') := Lib.hid (by rw [hnb, heb]; exact HSB.out)
  have HDI' : Hid (∀ (v1 v2 : Value) (W' : World), Below W.heap.size W W' → AsR W' (obN a) (obM a) (obE a) v1 → AsR W' (obN b) (obM b) (obE b) v2 → Calls Tryz.prog 29 #[.int .i64 3, .int .u64 53, .int .i64 0, .agg #[.int .u64 53, .int .i64 0, .int .i64 1, .bool na, v1, .int .i64 ea], .agg #[.int .u64 53, .int .i64 0, .int .i64 1, .bool nb, v2, .int .i64 eb]] W' fun e' w' => ∃ z A zn, e' = .returned (.tuple #[z, .int .i64 A]) ∧ AddZ w' z A 53 0 zn V X ∧ Below W'.heap.size W' w') := Lib.hid (by rw [hna, hnb, hea, heb]; exact HDI.out)
  clear HSA HSB HDI hR1 R1 hna hnb hea heb hV hX hok hVB hXB hoa hob hta htb hoa0 hob0 hop a1 a2 a3 a4 a5 b1 b2 b3 b4 b5 NA NB NC
  go_wp2_with (simp only)
  refine HSA'.out.mono ?_
  rintro _ w1 ⟨v1, A1, rfl, hS1, hr1, hb1⟩
  have HR1 := Lib.hid hr1
  have HB1 := Lib.hid hb1
  clear hr1 hb1
  go_upto_region 13 with fail
  obtain ⟨Y, hY⟩ : ∃ Y, Y = w1.alloc (.cells #[.int .u64 53, .int .i64 0, .int .i64 1, .bool na, v1, .int .i64 ea] 42) := ⟨_, rfl⟩
  have hbY : Below w1.heap.size w1 Y := by rw [hY]; exact fbone _
  have hry : Y.heap[w1.heap.size]? = some (.cells #[.int .u64 53, .int .i64 0, .int .i64 1, .bool na, v1, .int .i64 ea] 42 (0, 0)) := by rw [hY]; exact heap_alloc_new _ _
  rw [← hY]
  have RY := Lib.hid hry
  have HBY := Lib.hid (bthen HB1.out hbY)
  have R1Y : Hid (AsR Y (obN a) (obM a) (obE a) v1) := Lib.hid ⟨HR1.out.1.below hbY, HR1.out.2⟩
  clear hY hbY hry HR1 HB1
  go_wp2_with (simp only [f64bits])
  refine (HSB'.out Y HBY.out).mono ?_
  rintro _ w2 ⟨v2, A2, rfl, hS2, hr2, hb2⟩
  have HR2 := Lib.hid hr2
  have HB2 := Lib.hid hb2
  clear hr2 hb2
  go_upto_region 14 with fail
  obtain ⟨Z, hZ⟩ : ∃ Z, Z = w2.alloc (.cells #[.int .u64 53, .int .i64 0, .int .i64 1, .bool nb, v2, .int .i64 eb] 42) := ⟨_, rfl⟩
  have hbZ : Below w2.heap.size w2 Z := by rw [hZ]; exact fbone _
  have hrz : Z.heap[w2.heap.size]? = some (.cells #[.int .u64 53, .int .i64 0, .int .i64 1, .bool nb, v2, .int .i64 eb] 42 (0, 0)) := by rw [hZ]; exact heap_alloc_new _ _
  rw [← hZ]
  have hYZ := bthen HB2.out hbZ
  have HBZ := Lib.hid (bthen HBY.out hYZ)
  have R1Z : Hid (AsR Z (obN a) (obM a) (obE a) v1) := Lib.hid ⟨R1Y.out.1.below hYZ, R1Y.out.2⟩
  have R2Z : Hid (AsR Z (obN b) (obM b) (obE b) v2) := Lib.hid ⟨HR2.out.1.below hbZ, HR2.out.2⟩
  obtain ⟨⟨x0, x1, x2, x3, x4, x5⟩, -⟩ := row6 (keep_row hYZ RY.out)
  obtain ⟨⟨y0, y1, y2, y3, y4, y5⟩, -⟩ := row6 hrz
  clear hZ hbZ hrz hYZ HR2 HB2 R1Y HBY RY
  go_wp2_with fail
  refine (HDI'.out v1 v2 Z HBZ.out R1Z.out R2Z.out).mono ?_
  rintro _ w3 ⟨z, A3, zn, rfl, hz, hb3⟩
  obtain ⟨v3, zs, Ez, rfl, hS3, hw3, hF⟩ := HTO.out w3 z A3 zn hz
  obtain ⟨sg, hsg⟩ : ∃ x, x = vN V := ⟨_, rfl⟩
  rw [← hsg] at hF
  rw [← hsg]
  have HF := Lib.hid hF
  have HW3 := Lib.hid hw3
  have HB3 := Lib.hid (bthen HBZ.out hb3)
  clear hsg hF hw3 hz hb3 x0 x1 x2 x3 x4 x5 y0 y1 y2 y3 y4 y5
  go_upto_region 17 with fail
  obtain ⟨Q, hQ⟩ : ∃ Q, Q = w3.alloc (.cells #[.int .u64 53, .int .i64 0, .int .i64 1, .bool sg, v3, .int .i64 Ez] 42) := ⟨_, rfl⟩
  have hbQ : Below w3.heap.size w3 Q := by rw [hQ]; exact fbone _
  have hrq : Q.heap[w3.heap.size]? = some (.cells #[.int .u64 53, .int .i64 0, .int .i64 1, .bool sg, v3, .int .i64 Ez] 42 (0, 0)) := by rw [hQ]; exact heap_alloc_new _ _
  rw [← hQ]
  have HBQ := Lib.hid (bthen HB3.out hbQ)
  have HWQ := Lib.hid (HW3.out.below hbQ)
  obtain ⟨⟨x0, x1, x2, x3, x4, x5⟩, -⟩ := row6 hrq
  clear hQ hbQ hrq HW3 HB3
  go_wp2_with fail
  refine (HF.out Q HWQ.out).mono ?_
  rintro _ w4 ⟨rfl, hb4⟩
  have HBE := Lib.hid (HBW.out.trans ((bthen HBQ.out hb4).mono hWs))
  clear hb4
  go_wp2_with (simp only)
  go_ret
  exact ⟨rfl, HBE.out⟩
theorem lawAsFloat64 (a0 : Int) (a b : Nat) (w : World) (hT : TabW w) (hK : KarW w) (hD : DivW w) (l1 : 0 ≤ a0) (_h1 : a0 ≤ 255) (ha : a < 18446744073709551616) (hb : b < 18446744073709551616) :
    Calls Tryz.prog 7 #[.int .u8 a0, .float .f64 a, .float .f64 b] w fun e w' => e = .returned (.bool true) ∧ Below w.heap.size w w' := by
  obtain ⟨n0, rfl⟩ := Int.eq_ofNat_of_zero_le l1
  have hk : (n0 : Int) % 4 = 0 ∨ (n0 : Int) % 4 = 1 ∨ (n0 : Int) % 4 = 2 ∨ (n0 : Int) % 4 = 3 := by omega
  rcases hk with h | h | h | h
  · exact lawAs_0 n0 a b w hT hK hD ha hb h
  · exact lawAs_1 n0 a b w hT hK hD ha hb h
  · exact lawAs_2 n0 a b w hT hK hD ha hb h
  · exact lawAs_3 n0 a b w hT hK hD ha hb h
end Go.Proofs.YtllhnjpnkmjopaaGreatDoor
namespace Go.Proofs.YtllhnjpnkmjopaaGreatDoor
open Go.ChangeShapes Go.WideShapes Go.ChangeAt Go.RowKit

section
variable {H : Type} {enc : TypeId × Value → H} {P : Program} {w : World} {base : Nat} {spare : Nat → Bool} {held : Bool}
theorem trod_flt {k : FloatKind} {fuel : Nat} {t : TypeId} {cs : List Value} {x : DataW H × List MemPlace} (ht : P.underlying t = some (.float k)) (h : DataW.trod enc P w base spare held fuel t cs = some x) : ∃ n, cs = [.float k n] ∧ x = (.lit (.float k n), []) ∧ (Lit.float k n).wf = true := by
  cases fuel with
  | zero => simp [DataW.trod] at h
  | succ n =>
    unfold DataW.trod at h
    rw [ht] at h
    split at h <;> simp_all
theorem okWide_flt {k : FloatKind} {r : Reach} {b0 : Nat} {t : TypeId} {v : Value} (ht : P.underlying t = some (.float k)) (h : Value.okWide P w r b0 t v) : ∃ n, v = .float k n := by
  simp only [Value.okWide, ht, Cell.okWide] at h
  cases v <;> simp_all [Cell.ok]
theorem open_flt {k : FloatKind} {r : Reach} {b0 : Nat} {t : TypeId} {v : Value} {d : DataW H} {ps : List MemPlace} (ht : P.underlying t = some (.float k)) (hval : Value.okWide P w r b0 t v) (hd : DataW.Trod enc P w base spare held t v d ps) :
    ∃ n, v = .float k n ∧ d = .lit (.float k n) ∧ ps = [] ∧ (Lit.float k n).wf = true := by
  obtain ⟨n, rfl⟩ := okWide_flt ht hval
  obtain ⟨fuel, hf⟩ := hd
  obtain ⟨n', h, hx, hw⟩ := trod_flt ht hf
  simp [Value.cells] at h
  subst h
  simp only [Prod.mk.injEq] at hx
  exact ⟨n, rfl, hx.1, hx.2, hw⟩
theorem shut_flt {k : FloatKind} {t : TypeId} {n : Nat} (ht : P.underlying t = some (.float k)) (hw : (Lit.float k n).wf = true) : DataW.Trod enc P w base spare held t (.float k n) (.lit (.float k n)) [] :=
  ⟨1, by simp [DataW.trod, Value.cells, ht, hw]⟩
end
end Go.Proofs.YtllhnjpnkmjopaaGreatDoor
