/-
Texts of this proof, joined: AdJ DvA. No condition.
-/
import Derived.Test.YtdepidpgbgfjlaaGreatDoorK05
import Derived.Test.YtdepidpgbgfjlaaGreatDoorK29
import Derived.Test.YtdepidpgbgfjlaaGreatDoorK30
import Derived.Test.YtdepidpgbgfjlaaGreatDoorK31
/-
The thin package's Sub. No condition.
-/
namespace Go.Proofs.YtdepidpgbgfjlaaGreatDoor
open Go.RowKit

set_option maxRecDepth 100000 in
set_option maxHeartbeats 6400000 in
theorem impSubG (P E q k p1 m1 f1 p2 m2 f2 : Nat) (n1 n2 zz : Bool) (v1 v2 : Value) (e1 e2 VV XY : Int) (xs ys : List Nat) (w : World) (hv1 : RW w v1 xs) (hv2 : RW w v2 ys) (ho1 : RealOk P E p1 m1 f1 xs e1) (ho2 : RealOk P E p2 m2 f2 ys e2) (_hf1 : f1 ≤ 1) (_hf2 : f2 ≤ 1) (hP : P ≤ 9000) (hE : E ≤ 1040000000) (hq : q ≤ 1000000) (hk : k ≤ 5) (hT : TabW w) (hVb : bl VV.natAbs ≤ 1000000) (hXb : -2120000000 ≤ XY ∧ XY ≤ 2120000000)
    (hAdd : ∀ (W : World) (b B B1 B2 g1 g2 : Nat), FltR W b q k 0 0 false (.slice none 0 0) 0 → B ≤ b → FloatAt W B1 g1 p1 m1 f1 n1 (wv xs) e1 → FloatAt W B2 g2 p2 m2 f2 n2 (wv ys) e2 → b ≠ g1 → b ≠ g2 →
      Calls Tryz.prog 115 #[.pointer (some ⟨b, 0, none⟩), .pointer (some ⟨g1, 0, none⟩), .pointer (some ⟨g2, 0, none⟩)] W fun e' w' => e' = .returned (.pointer (some ⟨b, 0, none⟩)) ∧ AddR w' B b (pOf q (max p1 p2)) k zz VV XY ∧ Below B W w') :
    Calls Tryz.prog 69 #[.int .u64 q, .int .i64 k, .agg #[.int .u64 p1, .int .i64 m1, .int .i64 f1, .bool n1, v1, .int .i64 e1], .agg #[.int .u64 p2, .int .i64 m2, .int .i64 f2, .bool n2, v2, .int .i64 e2]] w fun e' w' => ∃ z A, e' = .returned (.tuple #[z, .int .i64 A]) ∧ AddZ w' z A (pOf q (max p1 p2)) k zz VV XY ∧ Below w.heap.size w w' := by
  have hS1 := hv1.isS
  have hS2 := hv2.isS
  have hab := (Below.refl w.heap.size w).alloc (Nat.le_refl _) (.cells #[.int .u64 p1, .int .i64 m1, .int .i64 f1, .bool n1, v1, .int .i64 e1] 39)
  have hac := hab.alloc hab.size (.cells #[.int .u64 p2, .int .i64 m2, .int .i64 f2, .bool n2, v2, .int .i64 e2] 39)
  have had := hac.alloc hac.size (.cells #[.int .u64 0, .int .i64 0, .int .i64 0, .bool false, .slice none 0 0, .int .i64 0] 39)
  obtain ⟨X, hX⟩ : ∃ X, X = ((w.alloc (.cells #[.int .u64 p1, .int .i64 m1, .int .i64 f1, .bool n1, v1, .int .i64 e1] 39)).alloc (.cells #[.int .u64 p2, .int .i64 m2, .int .i64 f2, .bool n2, v2, .int .i64 e2] 39)).alloc (.cells #[.int .u64 0, .int .i64 0, .int .i64 0, .bool false, .slice none 0 0, .int .i64 0] 39) := ⟨_, rfl⟩
  have hr1 : X.heap[w.heap.size]? = some (.cells #[.int .u64 p1, .int .i64 m1, .int .i64 f1, .bool n1, v1, .int .i64 e1] 39 (0, 0)) := by
    rw [hX]; exact row_chain31
  have hr2 : X.heap[w.heap.size + 1]? = some (.cells #[.int .u64 p2, .int .i64 m2, .int .i64 f2, .bool n2, v2, .int .i64 e2] 39 (0, 0)) := by
    rw [hX]; exact row_chain32
  have hr3 : X.heap[w.heap.size + 2]? = some (.cells #[.int .u64 0, .int .i64 0, .int .i64 0, .bool false, .slice none 0 0, .int .i64 0] 39 (0, 0)) := by
    rw [hX]; exact row_chain33
  rw [← hX] at had
  have V1 := Lib.hid (hv1.below had)
  have V2 := Lib.hid (hv2.below had)
  have HO1 := Lib.hid ho1
  have HO2 := Lib.hid ho2
  have HT := Lib.hid (hT.below had)
  have HR1 := Lib.hid hr1
  have HR2 := Lib.hid hr2
  have HR3 := Lib.hid hr3
  have hwX := Lib.hid had
  have hcc := Below.refl X.heap.size X
  have hXs := had.size
  have hN1 := Lib.hid (show w.heap.size + 2 ≠ w.heap.size by omega)
  have hN2 := Lib.hid (show w.heap.size + 2 ≠ w.heap.size + 1 by omega)
  have hX2 : w.heap.size + 3 ≤ X.heap.size := by rw [hX]; simp
  have hp1 : 0 < p1 := ho1.1
  have hp2 : 0 < p2 := ho2.1
  have hpP1 : p1 ≤ 9000 := Nat.le_trans ho1.2.1 hP
  have hpP2 : p2 ≤ 9000 := Nat.le_trans ho2.2.1 hP
  obtain ⟨V, hV⟩ : ∃ V, V = VV := ⟨_, rfl⟩
  obtain ⟨XX, hXX⟩ : ∃ XX, XX = XY := ⟨_, rfl⟩
  obtain ⟨zn, hzn⟩ : ∃ zn, zn = zz := ⟨_, rfl⟩
  have HXB : Hid (bl V.natAbs ≤ 1000000 ∧ -2120000000 ≤ XX ∧ XX ≤ 2120000000) := Lib.hid (by rw [hV, hXX]; exact ⟨hVb, hXb⟩)
  have hpo : pOf q (max p1 p2) ≤ 1000000 ∧ 0 < pOf q (max p1 p2) := by unfold pOf; split <;> omega
  obtain ⟨Z, hZ⟩ : ∃ Z, Z = pOf q (max p1 p2) := ⟨_, rfl⟩
  rw [← hZ] at hpo
  have HPO := Lib.hid hpo
  obtain ⟨A, hA⟩ : ∃ A, A = rA Z k (vN V) 0 V.natAbs := ⟨_, rfl⟩
  have hAb : -1 ≤ A ∧ A ≤ 1 := by rw [hA]; exact rA_bd _ _ _ _ _
  obtain ⟨f, hf⟩ : ∃ f, f = fO V.natAbs := ⟨_, rfl⟩
  have hf2' : f ≤ 2 := by rw [hf]; unfold fO; split <;> omega
  obtain ⟨sg, hsg⟩ : ∃ sg, sg = (if V = 0 then zn else vN V) := ⟨_, rfl⟩
  obtain ⟨R, hR⟩ : ∃ R, R = rQ Z k (vN V) 0 V.natAbs := ⟨_, rfl⟩
  obtain ⟨RX, hRX⟩ : ∃ RX, RX = XX + rk Z V.natAbs := ⟨_, rfl⟩
  have HRB : Hid (-2140000000 ≤ RX ∧ RX + bl R ≤ 2140000000) := Lib.hid (by rw [hRX, hR]; exact rQ_range HXB.out)
  have HIN := Lib.hid (fun (w' : World) (b : Nat) (h : AddR w' X.heap.size b Z k zn V XX) => (by unfold AddR at h; rw [← hA, ← hf, ← hsg, ← hR, ← hRX] at h; exact h : FVal w' X.heap.size b Z k A f sg R RX))
  have HOUT := Lib.hid (fun (w' : World) (z : Value) (h : RealV w' z Z k f sg R RX) => (by unfold AddZ; rw [← hA, ← hf, ← hsg, ← hR, ← hRX]; exact ⟨rfl, h⟩ : AddZ w' z A Z k zn V XX))
  have HADD := Lib.hid (fun (W : World) (b g1 g2 B1 B2 : Nat) (h : FltR W b q k 0 0 false (.slice none 0 0) 0) (hB : X.heap.size ≤ b) (h1 : FloatAt W B1 g1 p1 m1 f1 n1 (wv xs) e1) (h2 : FloatAt W B2 g2 p2 m2 f2 n2 (wv ys) e2) (hb1 : b ≠ g1) (hb2 : b ≠ g2) =>
    hAdd W b X.heap.size B1 B2 g1 g2 h hB h1 h2 hb1 hb2)
  rw [← hzn, ← hV, ← hXX, ← hZ] at HADD
  rw [← hzn, ← hV, ← hXX, ← hZ]
  clear hv1 hv2 ho1 ho2 hab hac had hr1 hr2 hr3 hT hpo hVb hXb hAdd hV hXX hzn hZ hA hf hsg hR hRX
  go_enter Tryz.func69, Tryz.ntmps69
  go_upto_region 1 with fail
  rw [← hX]
  clear hX
  first
    | (go_region_held3 (fun w' => (w'.cell? ⟨w.heap.size, 0, none⟩ = some (.int .u64 (p1 : Int)) ∧ w'.cell? ⟨w.heap.size, 1, none⟩ = some (.int .i64 (m1 : Int)) ∧ w'.cell? ⟨w.heap.size, 2, none⟩ = some (.int .i64 (f1 : Int)) ∧ w'.cell? ⟨w.heap.size, 3, none⟩ = some (.bool n1) ∧ w'.cell? ⟨w.heap.size, 4, none⟩ = some v1 ∧ w'.cell? ⟨w.heap.size, 5, none⟩ = some (.int .i64 e1)) ∧ (w'.cell? ⟨w.heap.size + 1, 0, none⟩ = some (.int .u64 (p2 : Int)) ∧ w'.cell? ⟨w.heap.size + 1, 1, none⟩ = some (.int .i64 (m2 : Int)) ∧ w'.cell? ⟨w.heap.size + 1, 2, none⟩ = some (.int .i64 (f2 : Int)) ∧ w'.cell? ⟨w.heap.size + 1, 3, none⟩ = some (.bool n2) ∧ w'.cell? ⟨w.heap.size + 1, 4, none⟩ = some v2 ∧ w'.cell? ⟨w.heap.size + 1, 5, none⟩ = some (.int .i64 e2)))
        ((first | (refine ksT2 HR1.out HR2.out ?_; with_reducible first | assumption | exact Below.drew hcc) | with_reducible exact ⟨ks6R hN1.out (ks6R hN1.out (ks6R hN1.out (ks6R hN1.out (ks6R hN1.out (ks6R hN1.out (ks12 HR1.out hb7).2))))), ks6R hN2.out (ks6R hN2.out (ks6R hN2.out (ks6R hN2.out (ks6R hN2.out (ks6R hN2.out (ks12 HR2.out hb7).2)))))⟩))
        (first
          | (go_at_call 80; (with_reducible refine (float_any P E p2 m2 f2 n2 v2 e2 ys _ (V2.out.below hb4) HO2.out (by omega) (by omega)).mono ?_); rintro _ w5 ⟨g2, rfl, hF2, hb5⟩; have G0' := Lib.hid (G0.out.below hb5); have G1' := Lib.hid (G1.out.below hb5); have G2 := Lib.hid hF2; have hne2 := Lib.hid (show g0 ≠ g2 by have := G0.out.lt; have := hF2.1; omega); clear hF2; have hb5 := bthen hb4 hb5)
          | (go_at_call 80; (with_reducible refine (float_any P E p1 m1 f1 n1 v1 e1 xs _ (V1.out.below hb3) HO1.out (by omega) (by omega)).mono ?_); rintro _ w4 ⟨g1, rfl, hF1, hb4⟩; have G0 := Lib.hid (GF.out.below hb4); have G1 := Lib.hid hF1; have hne1 := Lib.hid (show g0 ≠ g1 by have := GF.out.lt; have := hF1.1; omega); clear hF1; have hb4 := bthen hb3 hb4)
          | (go_at_call 64; refine (fresh_all q k _ (by omega) (by omega)).mono ?_; rintro _ w3 ⟨g0, rfl, ⟨hg0, hF0⟩, hb3⟩; have hg0X : X.heap.size ≤ g0 := (by rw [hg0]; exact Nat.le_refl _); clear hg0; have GF := Lib.hid hF0; clear hF0; have hb3 : Below X.heap.size X w3 := bthen (Below.drew hcc) hb3)
          | (go_at_call 115; (with_reducible refine (HADD.out _ g0 g1 g2 _ _ G0'.out hg0X G1'.out G2.out hne1.out hne2.out).mono ?_); rintro _ w6 ⟨rfl, hA6, hb6⟩; have F6 := Lib.hid (HIN.out _ _ hA6); clear hA6; have hb6 := bthenX hb5 hb6)
          | (go_at_call 63; (with_reducible refine (implBoth _ g0 Z k f A _ _ _ _ F6.out hf2' (by have := HPO.out; omega) (by omega) (fun _ => HPO.out.2) (fun _ => HRB.out) (HT.out.below hb6) hAb).mono ?_); rintro _ w7 ⟨z, rfl, hz, hb7⟩; have hb7 := bthen hb6 hb7; have hq2 := keep_row hb7 HR3.out; obtain ⟨vz, Ez, zs, Bz, rfl, hz2, hzd, hz3, hz4⟩ := hz; have hSz := hz2.isS; obtain ⟨⟨y0, y1, y2, y3, y4, y5⟩, s0, s1, s2, s3, s4, s5⟩ := row6 hq2; have H2 := Lib.hid hz2; have H34 := Lib.hid (And.intro hzd (And.intro hz3 hz4)); have HQ2 := Lib.hid hq2; clear hz2 hzd hz3 hz4 hq2)))
    | fail
  all_goals go_wp2_with fail
  all_goals
    have HS := row6_set (x := .int .u64 (Z : Int)) (y := .int .i64 (k : Int)) (z := .int .i64 (f : Int)) (x' := .bool sg) (y' := vz) (z' := .int .i64 Ez) HQ2.out
    have HB := bset6 (x := .int .u64 (Z : Int)) (y := .int .i64 (k : Int)) (z := .int .i64 (f : Int)) (x' := .bool sg) (y' := vz) (z' := .int .i64 Ez) (hwX.out.trans (hb7.mono hXs)) (Nat.le_trans (Nat.le_succ _) (Nat.le_succ _))
    obtain ⟨⟨a0, a1, a2, a3, a4, a5⟩, -⟩ := row6 HS
    refine bodyPost_ret (v := .tuple #[.agg #[.int .u64 Z, .int .i64 k, .int .i64 f, .bool sg, vz, .int .i64 Ez], .int .i64 A]) ?_ rfl ⟨_, _, rfl, HOUT.out _ _ ⟨_, _, _, Bz, rfl, ?_, H34.out.1, H34.out.2⟩, HB⟩
    · simp [results, Tryz.results69, go_sem, a0, a1, a2, a3, a4, a5]
    · exact H2.out.same fun hc => by
        have hne : sBlk vz ≠ w.heap.size + 2 := H2.out.ne_row HQ2.out (by decide) hc
        exact heap6_other hne
end Go.Proofs.YtdepidpgbgfjlaaGreatDoor
/-
Division of two words by one, by the reciprocal, in plain numbers. Plain law. No condition.
-/
namespace Go.Proofs.YtdepidpgbgfjlaaGreatDoor
open Go.RowKit

/-- The first guess of a quotient by the reciprocal v: it is not too great, and what is left is below B + d. -/
theorem dw_est {d v u1 u0 Q : Nat} (hd : d < 18446744073709551616) (hu1 : u1 < d) (hu0 : u0 < 18446744073709551616)
    (hv1 : v * d ≤ 340282366920938463463374607431768211455) (hv2 : 340282366920938463463374607431768211456 ≤ v * d + d)
    (hQ1 : Q * 18446744073709551616 ≤ v * u1 + u0) (hQ2 : v * u1 + u0 < Q * 18446744073709551616 + 18446744073709551616) :
    Q * d ≤ u1 * 18446744073709551616 + u0 ∧ u1 * 18446744073709551616 + u0 < Q * d + 18446744073709551616 + d := by
  have a1 := Nat.mul_le_mul_right d hQ1
  have a2 := Nat.mul_le_mul_right d (Nat.succ_le_of_lt hQ2)
  have b1 := Nat.mul_le_mul_right u1 hv1
  have b2 := Nat.mul_le_mul_right u1 hv2
  have e1 : Q * 18446744073709551616 * d = Q * d * 18446744073709551616 := by rw [Nat.mul_right_comm]
  have e2 : (v * u1 + u0) * d = v * d * u1 + u0 * d := by rw [Nat.add_mul, Nat.mul_right_comm]
  have e3 : (v * u1 + u0 + 1) * d = v * d * u1 + u0 * d + d := by rw [Nat.add_mul, e2, Nat.one_mul]
  have e4 : (Q * 18446744073709551616 + 18446744073709551616) * d = Q * d * 18446744073709551616 + 18446744073709551616 * d := by rw [Nat.add_mul, e1]
  have e5 : (v * d + d) * u1 = v * d * u1 + d * u1 := Nat.add_mul _ _ _
  rw [e1, e2] at a1
  rw [Nat.succ_eq_add_one, e3, e4] at a2
  rw [e5] at b2
  have c1 : u0 * d ≤ u0 * 18446744073709551616 := Nat.mul_le_mul_left _ (Nat.le_of_lt hd)
  obtain ⟨e, he⟩ : ∃ e, e + d = 18446744073709551616 := ⟨18446744073709551616 - d, by omega⟩
  have c2 : u0 * e ≤ 18446744073709551615 * e := Nat.mul_le_mul_right _ (by omega)
  have c3 : u0 * e + u0 * d = u0 * 18446744073709551616 := by rw [← Nat.mul_add, he]
  have c4 : d * u1 + d ≤ d * d := by
    have := Nat.mul_le_mul_left d (Nat.succ_le_of_lt hu1)
    rw [Nat.mul_succ] at this; exact this
  have c5 : d * d ≤ d * 18446744073709551616 := Nat.mul_le_mul_left _ (Nat.le_of_lt hd)
  generalize v * d * u1 = A at *
  generalize Q * d = C at *
  generalize u0 * d = D at *
  generalize u0 * e = F at *
  generalize d * u1 = G at *
  generalize d * d = H at *
  constructor <;> omega
/-- The guess is mended at most twice. -/
theorem dw_fix {d v u1 u0 Q : Nat} (hd0 : 9223372036854775808 ≤ d) (hd : d < 18446744073709551616) (hu1 : u1 < d) (hu0 : u0 < 18446744073709551616)
    (hv1 : v * d ≤ 340282366920938463463374607431768211455) (hv2 : 340282366920938463463374607431768211456 ≤ v * d + d)
    (hQ : Q = (v * u1 + u0) / 18446744073709551616) : ∃ R, u1 * 18446744073709551616 + u0 = Q * d + R ∧ R < 18446744073709551616 + d ∧ Q < 18446744073709551616 ∧
      (18446744073709551616 ≤ R → (R - d < d → (u1 * 18446744073709551616 + u0) / d = Q + 1 ∧ (u1 * 18446744073709551616 + u0) % d = R - d) ∧ (d ≤ R - d → (u1 * 18446744073709551616 + u0) / d = Q + 2 ∧ (u1 * 18446744073709551616 + u0) % d = R - d - d)) ∧
      (R < 18446744073709551616 → (R < d → (u1 * 18446744073709551616 + u0) / d = Q ∧ (u1 * 18446744073709551616 + u0) % d = R) ∧ (d ≤ R → (u1 * 18446744073709551616 + u0) / d = Q + 1 ∧ (u1 * 18446744073709551616 + u0) % d = R - d)) ∧
      (u1 * 18446744073709551616 + u0) / d < 18446744073709551616 := by
  obtain ⟨h1, h2⟩ := dw_est (Q := Q) hd hu1 hu0 hv1 hv2 (by omega) (by omega)
  have dm : ∀ q r, r < d → u1 * 18446744073709551616 + u0 = q * d + r → (u1 * 18446744073709551616 + u0) / d = q ∧ (u1 * 18446744073709551616 + u0) % d = r := fun q r hr h => by
    rw [h, Nat.mul_comm q, Nat.mul_add_div (by omega), Nat.mul_add_mod, Nat.div_eq_of_lt hr, Nat.mod_eq_of_lt hr]
    exact ⟨rfl, rfl⟩
  have hqb : (u1 * 18446744073709551616 + u0) / d < 18446744073709551616 := by
    refine Nat.div_lt_of_lt_mul ?_
    have := Nat.mul_le_mul_right 18446744073709551616 (Nat.succ_le_of_lt hu1)
    rw [Nat.succ_mul] at this
    omega
  have hQle : Q ≤ (u1 * 18446744073709551616 + u0) / d := (Nat.le_div_iff_mul_le (by omega)).2 h1
  refine ⟨u1 * 18446744073709551616 + u0 - Q * d, by omega, by omega, by omega, fun h => ⟨fun h' => ?_, fun h' => ?_⟩, fun h => ⟨fun h' => ?_, fun h' => ?_⟩, hqb⟩
  · exact dm _ _ h' (by rw [Nat.add_mul, Nat.one_mul]; omega)
  · exact dm _ _ (by omega) (by rw [Nat.add_mul]; omega)
  · exact dm _ _ h' (by omega)
  · exact dm _ _ (by omega) (by rw [Nat.add_mul, Nat.one_mul]; omega)
/-- A digit of a quotient of three halves of words by two: the guess by the upper half. -/
theorem kn_low {b y1 y0 q r u un : Nat} (h : q * y1 + r = u) (hc : b * r + un < q * y0) : u * b + un < q * (y1 * b + y0) := by
  have e : q * (y1 * b + y0) = q * y1 * b + q * y0 := by rw [Nat.mul_add, Nat.mul_assoc]
  have e2 : u * b = q * y1 * b + b * r := by rw [← h, Nat.add_mul, Nat.mul_comm b r]
  rw [e, e2]; omega
theorem kn_ok {b y1 y0 q r u un : Nat} (h : q * y1 + r = u) (hc : q * y0 ≤ b * r + un) : q * (y1 * b + y0) ≤ u * b + un := by
  have e : q * (y1 * b + y0) = q * y1 * b + q * y0 := by rw [Nat.mul_add, Nat.mul_assoc]
  have e2 : u * b = q * y1 * b + b * r := by rw [← h, Nat.add_mul, Nat.mul_comm b r]
  rw [e, e2]; omega
set_option maxRecDepth 100000 in
theorem kn_start {y1 y0 u : Nat} (hy1 : 2147483648 ≤ y1) (hy0 : y0 < 4294967296) (hu : u < y1 * 4294967296 + y0) : u / y1 ≤ 4294967297 := by
  have e : y1 * 4294967298 = y1 * 4294967296 + y1 * 2 := by rw [← Nat.mul_add]
  have h2 : u < y1 * 4294967298 := by
    rw [e]
    obtain ⟨z, hz⟩ : ∃ z, z = y1 * 4294967296 := ⟨_, rfl⟩
    rw [← hz] at hu ⊢
    clear hz e
    omega
  exact Nat.le_of_lt_succ (Nat.div_lt_of_lt_mul h2)
/-- The reciprocal. -/
theorem rec_ok {u : Nat} (hu : 9223372036854775808 ≤ u) (hu2 : u < 18446744073709551616) :
    18446744073709551615 - u < u ∧ ∃ v, v * u ≤ 340282366920938463463374607431768211455 ∧ 340282366920938463463374607431768211456 ≤ v * u + u ∧ v = 18446744073709551616 + ((18446744073709551615 - u) * 18446744073709551616 + 18446744073709551615) / u := by
  refine ⟨by omega, _, ?_, ?_, rfl⟩
  · rw [Nat.add_mul]
    have := Nat.div_mul_le_self ((18446744073709551615 - u) * 18446744073709551616 + 18446744073709551615) u
    omega
  · rw [Nat.add_mul]
    have := Nat.lt_div_mul_add (a := (18446744073709551615 - u) * 18446744073709551616 + 18446744073709551615) (b := u) (by omega)
    omega
end Go.Proofs.YtdepidpgbgfjlaaGreatDoor
