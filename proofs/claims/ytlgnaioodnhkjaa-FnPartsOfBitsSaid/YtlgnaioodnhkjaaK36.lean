/-
Texts of this proof, joined: FdI. No condition.
-/
import Derived.Test.YtlgnaioodnhkjaaK34
import Derived.Test.YtlgnaioodnhkjaaK35
/-
The statements on Float64 and Float32. No condition.
-/
namespace Go.Proofs.Ytlgnaioodnhkjaa
open Go.RowKit

theorem flv_bd {_b : Nat} {n : Bool} {t P S : Nat} (ht : t ≤ P) (hP : P < S) : (if n then S else 0) + t < 2 * S := by split <;> omega
theorem and_top64 {x : Nat} (hx : x < 18446744073709551616) : bits .and .u64 (x : Int) 9223372036854775807 = ((x % 9223372036854775808 : Nat) : Int) := by
  rw [show (9223372036854775807 : Int) = ((9223372036854775807 : Nat) : Int) from rfl, u64_and_nat x _ hx (by decide), show (9223372036854775807 : Nat) = 2 ^ 63 - 1 from rfl, Nat.and_two_pow_sub_one_eq_mod]
set_option maxRecDepth 100000 in
set_option maxHeartbeats 1600000 in
theorem impFloat64 (P E p m f : Nat) (neg : Bool) (v : Value) (e : Int) (ws : List Nat) (w : World) (hv : RW w v ws) (ho : RealOk P E p m f ws e) (hP : P ≤ 1000000) (hE : E ≤ 100000000) (hne : f = 1 → e + bl (wv ws) ≠ -1074) :
    Calls Try.prog 29 #[.agg #[.int .u64 p, .int .i64 m, .int .i64 f, .bool neg, v, .int .i64 e]] w fun e' w' => e' = .returned (.tuple #[.int .u64 (f64V f neg (wv ws) e : Nat), .int .i64 (f64A f neg (wv ws) e)]) ∧ Below w.heap.size w w' := by
  have hS := hv.isS
  have hab := (Below.refl w.heap.size w).alloc (Nat.le_refl _) (.cells #[.int .u64 p, .int .i64 m, .int .i64 f, .bool neg, v, .int .i64 e] 50)
  obtain ⟨X, hX⟩ : ∃ X, X = w.alloc (.cells #[.int .u64 p, .int .i64 m, .int .i64 f, .bool neg, v, .int .i64 e] 50) := ⟨_, rfl⟩
  have hr1 : X.heap[w.heap.size]? = some (.cells #[.int .u64 p, .int .i64 m, .int .i64 f, .bool neg, v, .int .i64 e] 50 (0, 0)) := by rw [hX]; exact row_chain11
  rw [← hX] at hab
  obtain ⟨-, x0, x1, x2, x3, x4, x5⟩ := ks12 hr1 (Below.refl _ _)
  have HV := Lib.hid (hv.below hab)
  have HO := Lib.hid ho
  have HB := Lib.hid hab
  have hXs := hab.size
  have hp : 0 < p ∧ p ≤ P := ⟨ho.1, ho.2.1⟩
  have hf : f ≤ 2 := ho.form'
  have HXB : Hid (f = 1 → -800000000 ≤ e + bl (wv ws) ∧ e + bl (wv ws) ≤ 800000000 ∧ e + bl (wv ws) ≠ -1074) := Lib.hid (fun h => by have := ho.one h; have := hne h; omega)
  obtain ⟨hbv, hba⟩ := f64_bd f neg (wv ws) e
  obtain ⟨V, hV⟩ : ∃ V, V = f64V f neg (wv ws) e := ⟨_, rfl⟩
  obtain ⟨A, hA⟩ : ∃ A, A = f64A f neg (wv ws) e := ⟨_, rfl⟩
  have HI := Lib.hid (fun (W : World) (B g : Nat) (h : FVal W B g p m 0 f neg (wv ws) e) => float64_val g B p m f 0 neg (wv ws) e W h hf (fun _ => hp.1) (by omega) HXB.out)
  rw [← hV, ← hA] at HI
  rw [← hV] at hbv
  rw [← hA] at hba
  rw [← hV, ← hA]
  clear hv ho hab hr1 hV hA hne
  go_enter Try.func29, Try.ntmps29
  go_upto_region 1 with fail
  rw [← hX]
  clear hX
  go_wp2_with fail
  refine (float_val P E p m f neg v e ws X HV.out HO.out (by omega) (by omega)).mono ?_
  rintro _ w1 ⟨g, rfl, ⟨-, hF⟩, hb1⟩
  have HF := Lib.hid hF
  have HB1 := Lib.hid (HB.out.trans (hb1.mono hXs))
  have h1s := HB1.out.size
  clear hF hb1 x0 x1 x2 x3 x4 x5
  go_wp2_with fail
  refine (HI.out w1 _ g HF.out).mono ?_
  rintro _ w2 ⟨rfl, hb2⟩
  have HB2 := Lib.hid (HB1.out.trans (hb2.mono h1s))
  clear hb2
  go_wp2_with (simp only)
  go_ret2
  exact ⟨rfl, HB2.out⟩
set_option maxRecDepth 100000 in
set_option maxHeartbeats 3200000 in
theorem lawFloat64 (p : Nat) (m f : Int) (n : Bool) (v : Value) (e : Int) (ws : List Nat) (w : World) (hv : RW w v ws)
    (_hg : p ≤ 18446744073709551615 ∧ (-9223372036854775808 ≤ m ∧ m ≤ 9223372036854775807) ∧ (-9223372036854775808 ≤ f ∧ f ≤ 9223372036854775807) ∧ (-9223372036854775808 ≤ e ∧ e ≤ 9223372036854775807)) :
    Calls Try.prog 9 #[.agg #[.int .u64 p, .int .i64 m, .int .i64 f, .bool n, v, .int .i64 e]] w fun e' w' => e' = .returned (.bool true) ∧ Below w.heap.size w w' := by
  have hS := hv.isS
  clear _hg
  have hab := (Below.refl w.heap.size w).alloc (Nat.le_refl _) (.cells #[.int .u64 p, .int .i64 m, .int .i64 f, .bool n, v, .int .i64 e] 50)
  obtain ⟨W, hW⟩ : ∃ W, W = w.alloc (.cells #[.int .u64 p, .int .i64 m, .int .i64 f, .bool n, v, .int .i64 e] 50) := ⟨_, rfl⟩
  have hrow : W.heap[w.heap.size]? = some (.cells #[.int .u64 p, .int .i64 m, .int .i64 f, .bool n, v, .int .i64 e] 50 (0, 0)) := by rw [hW]; exact box_row (Below.refl _ _)
  rw [← hW] at hab
  obtain ⟨-, x0, x1, x2, x3, x4, x5⟩ := ks12 hrow (Below.refl _ _)
  have HR := Lib.hid hrow
  have HV := Lib.hid (hv.below hab)
  have hWs := hab.size
  have HAB := Lib.hid hab
  clear hrow hv hab
  go_enter Try.func9, Try.ntmps9
  go_upto_region 1 with fail
  rw [← hW]
  clear hW
  go_wp2_with fail
  refine (zzFits1_any p m f e n v ws W HV.out).mono ?_
  rintro _ w1 ⟨rfl, hb1⟩
  obtain ⟨-, y0, y1, y2, y3, y4, y5⟩ := ks12 HR.out hb1
  have HB1 := Lib.hid hb1
  have HW1 := Lib.hid (HAB.out.trans (hb1.mono hWs))
  obtain ⟨fits, hfits⟩ : ∃ f, f = decide (ws.length ≤ 2147483647) := ⟨_, rfl⟩
  rw [← hfits]
  clear hfits hb1 x0 x1 x2 x3 x4 x5
  cases fits with
  | false =>
    go_wp2
    go_ret
    exact ⟨rfl, HW1.out⟩
  | true =>
  go_wp2_with fail
  refine (real_any 300 1200 p m f e n v ws w1 (HV.out.below HB1.out) (by decide) (by decide)).mono ?_
  rintro _ w2 ⟨ok, rfl, hok, hb2⟩
  have hbt := bthen HB1.out hb2
  have hr2 := keep_row hbt HR.out
  have HW2 := Lib.hid (HAB.out.trans (hbt.mono hWs))
  have V2 := Lib.hid (HV.out.below hbt)
  have HOK := Lib.hid hok
  have HR2 := Lib.hid hr2
  have h2s := HW2.out.size
  obtain ⟨-, z0, z1, z2, z3, z4, z5⟩ := ks12 hr2 (Below.refl _ _)
  clear hb2 hbt hr2 hok y0 y1 y2 y3 y4 y5 HB1 HW1 HR HV HAB hWs
  cases ok with
  | false =>
    go_wp2
    go_ret
    exact ⟨rfl, HW2.out⟩
  | true =>
  obtain ⟨p', m', f', hp', rfl, rfl, hR⟩ := HOK.out rfl
  have hpp : p' = p := by omega
  subst hpp
  clear HOK hp'
  by_cases f1 : f' = 1
  case neg =>
    have t0 : ((f' : Int) != 1) = true := by rw [bne_iff_ne]; omega
    have HRO := Lib.hid hR
    clear f1 hR
    go_wp2
    go_ret
    exact ⟨rfl, HW2.out⟩
  subst f1
  have hone := hR.one rfl
  have HRO := Lib.hid hR
  have HPO := Lib.hid hone.1
  obtain ⟨M, hM⟩ : ∃ M, M = wv ws := ⟨_, rfl⟩
  have hMb : bl M ≤ 300 := by rw [hM]; exact hone.2.2.1
  have heb : -1200 ≤ e ∧ e ≤ 1200 := ⟨hone.2.2.2.2.1, hone.2.2.2.2.2⟩
  have HFR : Hid (∀ W : World, RW W v ws → Calls Try.prog 26 #[.agg #[.int .u64 p', .int .i64 m', .int .i64 1, .bool n, v, .int .i64 e]] W fun e' w' => ∃ b, e' = .returned (.agg #[.bool n, b, .int .i64 e]) ∧ NatV w' b M ∧ Below W.heap.size W w') := Lib.hid (fun W h => by
    refine (ofReal_any 300 1200 p' m' 1 e n v ws W h hR).mono ?_
    rintro _ w' ⟨_, rfl, ⟨b, rfl, hd⟩, hb⟩
    rw [hM]
    exact ⟨b, rfl, hd, hb⟩)
  have HBT := Lib.hid (fun (a : Value) (W : World) (h : NatV W a M) => spBits52 n a e M W h (by omega) (by omega))
  have HBW := Lib.hid (fun (a : Value) (W : World) (h : NatV W a M) => between_any n a e M (-1074) 971 53 W h (by omega) (by omega) (by decide) (by decide) (by decide))
  have HIM := Lib.hid (fun (W : World) (h : RW W v ws) (hne : e + bl M ≠ -1074) => impFloat64 300 1200 p' m' 1 n v e ws W h hR (by decide) (by decide) (fun _ => by rw [← hM]; exact hne))
  rw [← hM] at HIM HPO
  have hvb := btV_le (n := n) (M := M) (k := 52) (T := 2047) (E := e) (L := -1074)
  rw [show 2047 * 2 ^ 52 = 9218868437227405312 from rfl] at hvb
  have hsb := btS_bd n M 52 2047 e (-1074)
  have hfv : f64V 1 n M e = (if n then 9223372036854775808 else 0) + btV n M e 52 (-1074) 2047 := by simp [f64V]
  have hfa : f64A 1 n M e = btS n M e 52 (-1074) 2047 := by simp [f64A]
  rw [hfv, hfa] at HIM
  obtain ⟨BV, hBV⟩ : ∃ BV, BV = btV n M e 52 (-1074) 2047 := ⟨_, rfl⟩
  obtain ⟨BS, hBS⟩ : ∃ BS, BS = btS n M e 52 (-1074) 2047 := ⟨_, rfl⟩
  rw [← hBV, ← hBS] at HBT HIM
  rw [← hBV] at hvb
  rw [← hBS] at hsb
  clear hR hone hM hfv hfa hBV hBS
  have z2' : w2.cell? ⟨w.heap.size, 2, none⟩ = some (.int .i64 1) := z2
  clear z2
  go_wp2_with fail
  refine (HFR.out w2 V2.out).mono ?_
  rintro _ w3 ⟨b, rfl, hnb, hb3⟩
  have hSb := hnb.isS
  obtain ⟨Y, hY⟩ : ∃ Y, Y = w3.alloc (.cells #[.bool n, b, .int .i64 e] 32) := ⟨_, rfl⟩
  have hbY : Below w3.heap.size w3 Y := by rw [hY]; exact fbone _
  have hrY : Y.heap[w3.heap.size]? = some (.cells #[.bool n, b, .int .i64 e] 32 (0, 0)) := by rw [hY]; exact row_chain11
  have hb2Y := bthen hb3 hbY
  have HNY := Lib.hid (hnb.below hbY)
  have HRY := Lib.hid hrY
  have HRX := Lib.hid (keep_row hb2Y HR2.out)
  have VY := Lib.hid (V2.out.below hb2Y)
  have HWY := Lib.hid (HW2.out.trans (hb2Y.mono h2s))
  have hYs := HWY.out.size
  obtain ⟨d0, d1, d2, -, -, -⟩ := row3 hrY
  clear hnb hb3 hbY hrY hb2Y z0 z1 z2' z3 z4 z5 HR2 V2 HW2 h2s
  go_upto_region 6 with fail
  rw [← hY]
  clear hY
  go_wp2_with fail
  refine (HBT.out b Y HNY.out).mono ?_
  rintro _ w4 ⟨rfl, hb4⟩
  have HN4 := Lib.hid (HNY.out.below hb4)
  have HR4 := Lib.hid (keep_row hb4 HRY.out)
  have HX4 := Lib.hid (keep_row hb4 HRX.out)
  have V4 := Lib.hid (VY.out.below hb4)
  have HW4 := Lib.hid (HWY.out.trans (hb4.mono hYs))
  have h4s := HW4.out.size
  clear hb4 HNY HRY HRX VY HWY hYs d0 d1 d2
  obtain ⟨d0, d1, d2, -, -, -⟩ := row3 HR4.out
  go_wp2_with fail
  refine (HBW.out b w4 HN4.out).mono ?_
  rintro _ w5 ⟨r, rfl, hne, hb5⟩
  have HNE := Lib.hid hne
  have HR5 := Lib.hid (keep_row hb5 HR4.out)
  have HX5 := Lib.hid (keep_row hb5 HX4.out)
  have V5 := Lib.hid (V4.out.below hb5)
  have HW5 := Lib.hid (HW4.out.trans (hb5.mono h4s))
  have h5s := HW5.out.size
  clear hb5 hne HN4 HR4 HX4 V4 HW4 h4s d0 d1 d2
  cases r with
  | true =>
    go_wp2
    go_ret
    exact ⟨rfl, HW5.out⟩
  | false =>
  obtain ⟨-, z0, z1, z2, z3, z4, z5⟩ := ks12 HX5.out (Below.refl _ _)
  have z2' : w5.cell? ⟨w.heap.size, 2, none⟩ = some (.int .i64 1) := z2
  have HIM2 := Lib.hid (HIM.out w5 V5.out (HNE.out rfl HPO.out))
  clear z2 HNE HIM
  go_wp2_with fail
  refine HIM2.out.mono ?_
  rintro _ w6 ⟨rfl, hb6⟩
  have HW6 := Lib.hid (HW5.out.trans (hb6.mono h5s))
  obtain ⟨d0, d1, d2, -, -, -⟩ := row3 (keep_row hb6 HR5.out)
  clear hb6 z0 z1 z2' z3 z4 z5 HIM2
  cases n
  · have a1 : bits .and .u64 (BV : Int) 9223372036854775807 = (BV : Int) := by
      have := and_top64 (x := BV) (by omega)
      rw [Nat.mod_eq_of_lt (by omega)] at this
      exact this
    have a2 : (BV : Int) / 9223372036854775808 = 0 := by omega
    have e0 : (if false = true then 9223372036854775808 else 0) + BV = BV := by simp
    rw [e0]
    clear e0
    go_wp2
    go_ret
    exact ⟨rfl, HW6.out⟩
  · obtain ⟨R, hRR⟩ : ∃ R, R = (if true = true then 9223372036854775808 else 0) + BV := ⟨_, rfl⟩
    have hR2 : R = 9223372036854775808 + BV := hRR
    rw [← hRR]
    have a1 : bits .and .u64 (R : Int) 9223372036854775807 = (BV : Int) := by
      have := and_top64 (x := R) (by omega)
      rw [show R % 9223372036854775808 = BV by omega] at this
      exact this
    have a2 : (R : Int) / 9223372036854775808 = 1 := by omega
    have hRb : R < 18446744073709551616 := by omega
    clear hRR hR2
    go_wp2
    go_ret
    exact ⟨rfl, HW6.out⟩
theorem and_top32 {x : Nat} (hx : x < 4294967296) : bits .and .u32 (x : Int) 2147483647 = ((x % 2147483648 : Nat) : Int) := by
  rw [show (2147483647 : Int) = ((2147483647 : Nat) : Int) from rfl, u32_and_nat x _ hx (by decide), show (2147483647 : Nat) = 2 ^ 31 - 1 from rfl, Nat.and_two_pow_sub_one_eq_mod]
set_option maxRecDepth 100000 in
set_option maxHeartbeats 1600000 in
theorem impFloat32 (P E p m f : Nat) (neg : Bool) (v : Value) (e : Int) (ws : List Nat) (w : World) (hv : RW w v ws) (ho : RealOk P E p m f ws e) (hP : P ≤ 1000000) (hE : E ≤ 100000000) (hne : f = 1 → e + bl (wv ws) ≠ -149) :
    Calls Try.prog 28 #[.agg #[.int .u64 p, .int .i64 m, .int .i64 f, .bool neg, v, .int .i64 e]] w fun e' w' => e' = .returned (.tuple #[.int .u32 (f32V f neg (wv ws) e : Nat), .int .i64 (f32A f neg (wv ws) e)]) ∧ Below w.heap.size w w' := by
  have hS := hv.isS
  have hab := (Below.refl w.heap.size w).alloc (Nat.le_refl _) (.cells #[.int .u64 p, .int .i64 m, .int .i64 f, .bool neg, v, .int .i64 e] 50)
  obtain ⟨X, hX⟩ : ∃ X, X = w.alloc (.cells #[.int .u64 p, .int .i64 m, .int .i64 f, .bool neg, v, .int .i64 e] 50) := ⟨_, rfl⟩
  have hr1 : X.heap[w.heap.size]? = some (.cells #[.int .u64 p, .int .i64 m, .int .i64 f, .bool neg, v, .int .i64 e] 50 (0, 0)) := by rw [hX]; exact row_chain11
  rw [← hX] at hab
  obtain ⟨-, x0, x1, x2, x3, x4, x5⟩ := ks12 hr1 (Below.refl _ _)
  have HV := Lib.hid (hv.below hab)
  have HO := Lib.hid ho
  have HB := Lib.hid hab
  have hXs := hab.size
  have hp : 0 < p ∧ p ≤ P := ⟨ho.1, ho.2.1⟩
  have hf : f ≤ 2 := ho.form'
  have HXB : Hid (f = 1 → -800000000 ≤ e + bl (wv ws) ∧ e + bl (wv ws) ≤ 800000000 ∧ e + bl (wv ws) ≠ -149) := Lib.hid (fun h => by have := ho.one h; have := hne h; omega)
  obtain ⟨hbv, hba⟩ := f32_bd f neg (wv ws) e
  obtain ⟨V, hV⟩ : ∃ V, V = f32V f neg (wv ws) e := ⟨_, rfl⟩
  obtain ⟨A, hA⟩ : ∃ A, A = f32A f neg (wv ws) e := ⟨_, rfl⟩
  have HI := Lib.hid (fun (W : World) (B g : Nat) (h : FVal W B g p m 0 f neg (wv ws) e) => float32_val g B p m f 0 neg (wv ws) e W h hf (fun _ => hp.1) (by omega) HXB.out)
  rw [← hV, ← hA] at HI
  rw [← hV] at hbv
  rw [← hA] at hba
  rw [← hV, ← hA]
  clear hv ho hab hr1 hV hA hne
  go_enter Try.func28, Try.ntmps28
  go_upto_region 1 with fail
  rw [← hX]
  clear hX
  go_wp2_with fail
  refine (float_val P E p m f neg v e ws X HV.out HO.out (by omega) (by omega)).mono ?_
  rintro _ w1 ⟨g, rfl, ⟨-, hF⟩, hb1⟩
  have HF := Lib.hid hF
  have HB1 := Lib.hid (HB.out.trans (hb1.mono hXs))
  have h1s := HB1.out.size
  clear hF hb1 x0 x1 x2 x3 x4 x5
  go_wp2_with fail
  refine (HI.out w1 _ g HF.out).mono ?_
  rintro _ w2 ⟨rfl, hb2⟩
  have HB2 := Lib.hid (HB1.out.trans (hb2.mono h1s))
  clear hb2
  go_wp2_with (simp only)
  go_ret2
  exact ⟨rfl, HB2.out⟩
set_option maxRecDepth 100000 in
set_option maxHeartbeats 3200000 in
theorem lawFloat32 (p : Nat) (m f : Int) (n : Bool) (v : Value) (e : Int) (ws : List Nat) (w : World) (hv : RW w v ws)
    (_hg : p ≤ 18446744073709551615 ∧ (-9223372036854775808 ≤ m ∧ m ≤ 9223372036854775807) ∧ (-9223372036854775808 ≤ f ∧ f ≤ 9223372036854775807) ∧ (-9223372036854775808 ≤ e ∧ e ≤ 9223372036854775807)) :
    Calls Try.prog 8 #[.agg #[.int .u64 p, .int .i64 m, .int .i64 f, .bool n, v, .int .i64 e]] w fun e' w' => e' = .returned (.bool true) ∧ Below w.heap.size w w' := by
  have hS := hv.isS
  clear _hg
  have hab := (Below.refl w.heap.size w).alloc (Nat.le_refl _) (.cells #[.int .u64 p, .int .i64 m, .int .i64 f, .bool n, v, .int .i64 e] 50)
  obtain ⟨W, hW⟩ : ∃ W, W = w.alloc (.cells #[.int .u64 p, .int .i64 m, .int .i64 f, .bool n, v, .int .i64 e] 50) := ⟨_, rfl⟩
  have hrow : W.heap[w.heap.size]? = some (.cells #[.int .u64 p, .int .i64 m, .int .i64 f, .bool n, v, .int .i64 e] 50 (0, 0)) := by rw [hW]; exact box_row (Below.refl _ _)
  rw [← hW] at hab
  obtain ⟨-, x0, x1, x2, x3, x4, x5⟩ := ks12 hrow (Below.refl _ _)
  have HR := Lib.hid hrow
  have HV := Lib.hid (hv.below hab)
  have hWs := hab.size
  have HAB := Lib.hid hab
  clear hrow hv hab
  go_enter Try.func8, Try.ntmps8
  go_upto_region 1 with fail
  rw [← hW]
  clear hW
  go_wp2_with fail
  refine (zzFits1_any p m f e n v ws W HV.out).mono ?_
  rintro _ w1 ⟨rfl, hb1⟩
  obtain ⟨-, y0, y1, y2, y3, y4, y5⟩ := ks12 HR.out hb1
  have HB1 := Lib.hid hb1
  have HW1 := Lib.hid (HAB.out.trans (hb1.mono hWs))
  obtain ⟨fits, hfits⟩ : ∃ f, f = decide (ws.length ≤ 2147483647) := ⟨_, rfl⟩
  rw [← hfits]
  clear hfits hb1 x0 x1 x2 x3 x4 x5
  cases fits with
  | false =>
    go_wp2
    go_ret
    exact ⟨rfl, HW1.out⟩
  | true =>
  go_wp2_with fail
  refine (real_any 300 300 p m f e n v ws w1 (HV.out.below HB1.out) (by decide) (by decide)).mono ?_
  rintro _ w2 ⟨ok, rfl, hok, hb2⟩
  have hbt := bthen HB1.out hb2
  have hr2 := keep_row hbt HR.out
  have HW2 := Lib.hid (HAB.out.trans (hbt.mono hWs))
  have V2 := Lib.hid (HV.out.below hbt)
  have HOK := Lib.hid hok
  have HR2 := Lib.hid hr2
  have h2s := HW2.out.size
  obtain ⟨-, z0, z1, z2, z3, z4, z5⟩ := ks12 hr2 (Below.refl _ _)
  clear hb2 hbt hr2 hok y0 y1 y2 y3 y4 y5 HB1 HW1 HR HV HAB hWs
  cases ok with
  | false =>
    go_wp2
    go_ret
    exact ⟨rfl, HW2.out⟩
  | true =>
  obtain ⟨p', m', f', hp', rfl, rfl, hR⟩ := HOK.out rfl
  have hpp : p' = p := by omega
  subst hpp
  clear HOK hp'
  by_cases f1 : f' = 1
  case neg =>
    have t0 : ((f' : Int) != 1) = true := by rw [bne_iff_ne]; omega
    have HRO := Lib.hid hR
    clear f1 hR
    go_wp2
    go_ret
    exact ⟨rfl, HW2.out⟩
  subst f1
  have hone := hR.one rfl
  have HRO := Lib.hid hR
  have HPO := Lib.hid hone.1
  obtain ⟨M, hM⟩ : ∃ M, M = wv ws := ⟨_, rfl⟩
  have hMb : bl M ≤ 300 := by rw [hM]; exact hone.2.2.1
  have heb : -300 ≤ e ∧ e ≤ 300 := ⟨hone.2.2.2.2.1, hone.2.2.2.2.2⟩
  have HFR : Hid (∀ W : World, RW W v ws → Calls Try.prog 26 #[.agg #[.int .u64 p', .int .i64 m', .int .i64 1, .bool n, v, .int .i64 e]] W fun e' w' => ∃ b, e' = .returned (.agg #[.bool n, b, .int .i64 e]) ∧ NatV w' b M ∧ Below W.heap.size W w') := Lib.hid (fun W h => by
    refine (ofReal_any 300 300 p' m' 1 e n v ws W h hR).mono ?_
    rintro _ w' ⟨_, rfl, ⟨b, rfl, hd⟩, hb⟩
    rw [hM]
    exact ⟨b, rfl, hd, hb⟩)
  have HBT := Lib.hid (fun (a : Value) (W : World) (h : NatV W a M) => spBits23 n a e M W h (by omega) (by omega))
  have HBW := Lib.hid (fun (a : Value) (W : World) (h : NatV W a M) => between_any n a e M (-149) 104 24 W h (by omega) (by omega) (by decide) (by decide) (by decide))
  have HIM := Lib.hid (fun (W : World) (h : RW W v ws) (hne : e + bl M ≠ -149) => impFloat32 300 300 p' m' 1 n v e ws W h hR (by decide) (by decide) (fun _ => by rw [← hM]; exact hne))
  rw [← hM] at HIM HPO
  have hvb := btV_le (n := n) (M := M) (k := 23) (T := 255) (E := e) (L := -149)
  rw [show 255 * 2 ^ 23 = 2139095040 from rfl] at hvb
  have hsb := btS_bd n M 23 255 e (-149)
  have hfv : f32V 1 n M e = (if n then 2147483648 else 0) + btV n M e 23 (-149) 255 := by simp [f32V]
  have hfa : f32A 1 n M e = btS n M e 23 (-149) 255 := by simp [f32A]
  rw [hfv, hfa] at HIM
  obtain ⟨BV, hBV⟩ : ∃ BV, BV = btV n M e 23 (-149) 255 := ⟨_, rfl⟩
  obtain ⟨BS, hBS⟩ : ∃ BS, BS = btS n M e 23 (-149) 255 := ⟨_, rfl⟩
  rw [← hBV, ← hBS] at HBT HIM
  rw [← hBV] at hvb
  rw [← hBS] at hsb
  clear hR hone hM hfv hfa hBV hBS
  have z2' : w2.cell? ⟨w.heap.size, 2, none⟩ = some (.int .i64 1) := z2
  clear z2
  go_wp2_with fail
  refine (HFR.out w2 V2.out).mono ?_
  rintro _ w3 ⟨b, rfl, hnb, hb3⟩
  have hSb := hnb.isS
  obtain ⟨Y, hY⟩ : ∃ Y, Y = w3.alloc (.cells #[.bool n, b, .int .i64 e] 32) := ⟨_, rfl⟩
  have hbY : Below w3.heap.size w3 Y := by rw [hY]; exact fbone _
  have hrY : Y.heap[w3.heap.size]? = some (.cells #[.bool n, b, .int .i64 e] 32 (0, 0)) := by rw [hY]; exact row_chain11
  have hb2Y := bthen hb3 hbY
  have HNY := Lib.hid (hnb.below hbY)
  have HRY := Lib.hid hrY
  have HRX := Lib.hid (keep_row hb2Y HR2.out)
  have VY := Lib.hid (V2.out.below hb2Y)
  have HWY := Lib.hid (HW2.out.trans (hb2Y.mono h2s))
  have hYs := HWY.out.size
  obtain ⟨d0, d1, d2, -, -, -⟩ := row3 hrY
  clear hnb hb3 hbY hrY hb2Y z0 z1 z2' z3 z4 z5 HR2 V2 HW2 h2s
  go_upto_region 6 with fail
  rw [← hY]
  clear hY
  go_wp2_with fail
  refine (HBT.out b Y HNY.out).mono ?_
  rintro _ w4 ⟨rfl, hb4⟩
  have HN4 := Lib.hid (HNY.out.below hb4)
  have HR4 := Lib.hid (keep_row hb4 HRY.out)
  have HX4 := Lib.hid (keep_row hb4 HRX.out)
  have V4 := Lib.hid (VY.out.below hb4)
  have HW4 := Lib.hid (HWY.out.trans (hb4.mono hYs))
  have h4s := HW4.out.size
  clear hb4 HNY HRY HRX VY HWY hYs d0 d1 d2
  obtain ⟨d0, d1, d2, -, -, -⟩ := row3 HR4.out
  go_wp2_with fail
  refine (HBW.out b w4 HN4.out).mono ?_
  rintro _ w5 ⟨r, rfl, hne, hb5⟩
  have HNE := Lib.hid hne
  have HR5 := Lib.hid (keep_row hb5 HR4.out)
  have HX5 := Lib.hid (keep_row hb5 HX4.out)
  have V5 := Lib.hid (V4.out.below hb5)
  have HW5 := Lib.hid (HW4.out.trans (hb5.mono h4s))
  have h5s := HW5.out.size
  clear hb5 hne HN4 HR4 HX4 V4 HW4 h4s d0 d1 d2
  cases r with
  | true =>
    go_wp2
    go_ret
    exact ⟨rfl, HW5.out⟩
  | false =>
  obtain ⟨-, z0, z1, z2, z3, z4, z5⟩ := ks12 HX5.out (Below.refl _ _)
  have z2' : w5.cell? ⟨w.heap.size, 2, none⟩ = some (.int .i64 1) := z2
  have HIM2 := Lib.hid (HIM.out w5 V5.out (HNE.out rfl HPO.out))
  clear z2 HNE HIM
  go_wp2_with fail
  refine HIM2.out.mono ?_
  rintro _ w6 ⟨rfl, hb6⟩
  have HW6 := Lib.hid (HW5.out.trans (hb6.mono h5s))
  obtain ⟨d0, d1, d2, -, -, -⟩ := row3 (keep_row hb6 HR5.out)
  clear hb6 z0 z1 z2' z3 z4 z5 HIM2
  cases n
  · have a1 : bits .and .u32 (BV : Int) 2147483647 = (BV : Int) := by
      have := and_top32 (x := BV) (by omega)
      rw [Nat.mod_eq_of_lt (by omega)] at this
      exact this
    have a2 : (BV : Int) / 2147483648 = 0 := by omega
    have e0 : (if false = true then 2147483648 else 0) + BV = BV := by simp
    rw [e0]
    clear e0
    go_wp2
    go_ret
    exact ⟨rfl, HW6.out⟩
  · obtain ⟨R, hRR⟩ : ∃ R, R = (if true = true then 2147483648 else 0) + BV := ⟨_, rfl⟩
    have hR2 : R = 2147483648 + BV := hRR
    rw [← hRR]
    have a1 : bits .and .u32 (R : Int) 2147483647 = (BV : Int) := by
      have := and_top32 (x := R) (by omega)
      rw [show R % 2147483648 = BV by omega] at this
      exact this
    have a2 : (R : Int) / 2147483648 = 1 := by omega
    have hRb : R < 4294967296 := by omega
    clear hRR hR2
    go_wp2
    go_ret
    exact ⟨rfl, HW6.out⟩
end Go.Proofs.Ytlgnaioodnhkjaa
