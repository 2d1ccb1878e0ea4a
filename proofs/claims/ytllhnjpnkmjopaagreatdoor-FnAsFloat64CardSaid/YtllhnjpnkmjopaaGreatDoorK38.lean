/-
Texts of this proof, joined: MuI TwA FcC WhA ImA FcD. No condition.
-/
import Derived.Test.YtllhnjpnkmjopaaGreatDoorK01
import Derived.Test.YtllhnjpnkmjopaaGreatDoorK17
import Derived.Test.YtllhnjpnkmjopaaGreatDoorK18
import Derived.Test.YtllhnjpnkmjopaaGreatDoorK19
import Derived.Test.YtllhnjpnkmjopaaGreatDoorK20
import Derived.Test.YtllhnjpnkmjopaaGreatDoorK36
import Derived.Test.YtllhnjpnkmjopaaGreatDoorK37
namespace Go.Proofs.YtllhnjpnkmjopaaGreatDoor
open Go.RowKit

theorem prV_bl (n : Bool) (M N : Nat) : bl (sI n (M * N)).natAbs ≤ bl M + bl N := by
  rw [natAbs_sI]
  refine bl_le ?_
  rw [Nat.pow_add]
  exact Nat.mul_lt_mul'' (lt_bl M) (lt_bl N)
set_option maxRecDepth 100000 in
set_option maxHeartbeats 6400000 in
theorem impMulX (P E F q k p1 m1 f1 p2 m2 f2 : Nat) (n1 n2 : Bool) (v1 v2 : Value) (e1 e2 : Int) (xs ys : List Nat) (w : World) (hv1 : RW w v1 xs) (hv2 : RW w v2 ys) (ho1 : RealOk P E p1 m1 f1 xs e1) (ho2 : RealOk P F p2 m2 f2 ys e2) (hf1 : f1 ≤ 1) (hf2 : f2 ≤ 1) (hP : P ≤ 2400) (hE : E ≤ 1040000000) (hF : F ≤ 500000000) (hq : q ≤ 1000000) (hk : k ≤ 5) (hT : TabW w) (hK : KarW w) :
    Calls Tryz.prog 26 #[.int .u64 q, .int .i64 k, .agg #[.int .u64 p1, .int .i64 m1, .int .i64 f1, .bool n1, v1, .int .i64 e1], .agg #[.int .u64 p2, .int .i64 m2, .int .i64 f2, .bool n2, v2, .int .i64 e2]] w fun e' w' => ∃ z A, e' = .returned (.tuple #[z, .int .i64 A]) ∧ AddZ w' z A (pOf q (max p1 p2)) k (n1 != n2) (sI (n1 != n2) (dyM f1 (wv xs) * dyM f2 (wv ys))) (dyE f1 e1 + dyE f2 e2) ∧ Below w.heap.size w w' := by
  have hS1 := hv1.isS
  have hS2 := hv2.isS
  have hab := (Below.refl w.heap.size w).alloc (Nat.le_refl _) (.cells #[.int .u64 p1, .int .i64 m1, .int .i64 f1, .bool n1, v1, .int .i64 e1] 42)
  have hac := hab.alloc hab.size (.cells #[.int .u64 p2, .int .i64 m2, .int .i64 f2, .bool n2, v2, .int .i64 e2] 42)
  have had := hac.alloc hac.size (.cells #[.int .u64 0, .int .i64 0, .int .i64 0, .bool false, .slice none 0 0, .int .i64 0] 42)
  obtain ⟨X, hX⟩ : ∃ X, X = ((w.alloc (.cells #[.int .u64 p1, .int .i64 m1, .int .i64 f1, .bool n1, v1, .int .i64 e1] 42)).alloc (.cells #[.int .u64 p2, .int .i64 m2, .int .i64 f2, .bool n2, v2, .int .i64 e2] 42)).alloc (.cells #[.int .u64 0, .int .i64 0, .int .i64 0, .bool false, .slice none 0 0, .int .i64 0] 42) := ⟨_, rfl⟩
  have hr1 : X.heap[w.heap.size]? = some (.cells #[.int .u64 p1, .int .i64 m1, .int .i64 f1, .bool n1, v1, .int .i64 e1] 42 (0, 0)) := by
    rw [hX]; exact row_chain31
  have hr2 : X.heap[w.heap.size + 1]? = some (.cells #[.int .u64 p2, .int .i64 m2, .int .i64 f2, .bool n2, v2, .int .i64 e2] 42 (0, 0)) := by
    rw [hX]; exact row_chain32
  have hr3 : X.heap[w.heap.size + 2]? = some (.cells #[.int .u64 0, .int .i64 0, .int .i64 0, .bool false, .slice none 0 0, .int .i64 0] 42 (0, 0)) := by
    rw [hX]; exact row_chain33
  rw [← hX] at had
  have V1 := Lib.hid (hv1.below had)
  have V2 := Lib.hid (hv2.below had)
  have HO1 := Lib.hid ho1
  have HO2 := Lib.hid ho2
  have HT := Lib.hid (hT.below had)
  have HK := Lib.hid (hK.below had)
  have HR1 := Lib.hid hr1
  have HR2 := Lib.hid hr2
  have HR3 := Lib.hid hr3
  have hwX := Lib.hid had
  have hcc := Below.refl X.heap.size X
  have hXs := had.size
  have hN1 := Lib.hid (show w.heap.size + 2 ≠ w.heap.size by omega)
  have hN2 := Lib.hid (show w.heap.size + 2 ≠ w.heap.size + 1 by omega)
  have hX2 : w.heap.size + 3 ≤ X.heap.size := by rw [hX]; simp
  have hp1 : 0 < p1 := ho1.1
  have hp2 : 0 < p2 := ho2.1
  have hpP1 : p1 ≤ 9000 := Nat.le_trans (Nat.le_trans ho1.2.1 hP) (by decide)
  have hpP2 : p2 ≤ 9000 := Nat.le_trans (Nat.le_trans ho2.2.1 hP) (by decide)
  have K1 : Hid (f1 = 1 → 0 < wv xs ∧ bl (wv xs) ≤ p1 ∧ bl (wv xs) ≤ 2400 ∧ -1050000000 ≤ e1 ∧ e1 ≤ 1050000000) := Lib.hid (fun h1 => by
    obtain ⟨_, _, _, h | h | h⟩ := ho1
    · omega
    · omega
    · omega)
  have K2 : Hid (f2 = 1 → 0 < wv ys ∧ bl (wv ys) ≤ p2 ∧ bl (wv ys) ≤ 2400 ∧ -600000000 ≤ e2 ∧ e2 ≤ 600000000) := Lib.hid (fun h1 => by
    obtain ⟨_, _, _, h | h | h⟩ := ho2
    · omega
    · omega
    · omega)
  obtain ⟨V, hV⟩ : ∃ V, V = sI (n1 != n2) (dyM f1 (wv xs) * dyM f2 (wv ys)) := ⟨_, rfl⟩
  obtain ⟨XX, hXX⟩ : ∃ XX, XX = dyE f1 e1 + dyE f2 e2 := ⟨_, rfl⟩
  obtain ⟨zn, hzn⟩ : ∃ zn, zn = (n1 != n2) := ⟨_, rfl⟩
  have hbd1 := dy_bd ho1
  have hbd2 := dy_bd ho2
  have hblV := prV_bl (n1 != n2) (dyM f1 (wv xs)) (dyM f2 (wv ys))
  rw [← hV] at hblV
  have HXB : Hid (bl V.natAbs ≤ 1000000 ∧ -2120000000 ≤ XX ∧ XX ≤ 2120000000) := Lib.hid (by omega)
  have hpo : pOf q (max p1 p2) ≤ 1000000 ∧ 0 < pOf q (max p1 p2) := by unfold pOf; split <;> omega
  obtain ⟨Z, hZ⟩ : ∃ Z, Z = pOf q (max p1 p2) := ⟨_, rfl⟩
  rw [← hZ] at hpo
  have HPO := Lib.hid hpo
  obtain ⟨A, hA⟩ : ∃ A, A = rA Z k (vN V) 0 V.natAbs := ⟨_, rfl⟩
  have hAb : -1 ≤ A ∧ A ≤ 1 := by rw [hA]; exact rA_bd _ _ _ _ _
  obtain ⟨f, hf⟩ : ∃ f, f = fO V.natAbs := ⟨_, rfl⟩
  have hf2' : f ≤ 2 := by rw [hf]; unfold fO; split <;> omega
  obtain ⟨sg, hsg⟩ : ∃ sg, sg = (if V = 0 then zn else vN V) := ⟨_, rfl⟩
  obtain ⟨R, hR⟩ : ∃ R, R = rQ Z k (vN V) 0 V.natAbs := ⟨_, rfl⟩
  obtain ⟨RX, hRX⟩ : ∃ RX, RX = XX + rk Z V.natAbs := ⟨_, rfl⟩
  have HRB : Hid (-2140000000 ≤ RX ∧ RX + bl R ≤ 2140000000) := Lib.hid (by rw [hRX, hR]; exact rQ_range HXB.out)
  have HIN := Lib.hid (fun (w' : World) (b : Nat) (h : AddR w' X.heap.size b Z k zn V XX) => (by unfold AddR at h; rw [← hA, ← hf, ← hsg, ← hR, ← hRX] at h; exact h : FVal w' X.heap.size b Z k A f sg R RX))
  have HOUT := Lib.hid (fun (w' : World) (z : Value) (h : RealV w' z Z k f sg R RX) => (by unfold AddZ; rw [← hA, ← hf, ← hsg, ← hR, ← hRX]; exact ⟨rfl, h⟩ : AddZ w' z A Z k zn V XX))
  have HADD := Lib.hid (fun (W : World) (b g1 g2 B1 B2 : Nat) (h : FltR W b q k 0 0 false (.slice none 0 0) 0) (hB : X.heap.size ≤ b) (h1 : FloatAt W B1 g1 p1 m1 f1 n1 (wv xs) e1) (h2 : FloatAt W B2 g2 p2 m2 f2 n2 (wv ys) e2) (hb1 : b ≠ g1) (hb2 : b ≠ g2) (hb3 : g1 ≠ g2) (hKW : KarW W) =>
    mulF_any b X.heap.size B1 B2 g1 g2 q k p1 m1 p2 m2 0 f1 f2 (wv xs) (wv ys) 0 0 e1 e2 false n1 n2 W h hB hf1 hf2 h1 h2 K1.out K2.out hb1 hb2 hb3 (by omega) hp1 (by omega) hp2 (by omega) hk hKW)
  rw [← hV, ← hzn, ← hXX, ← hZ] at HADD
  rw [← hV, ← hzn, ← hXX, ← hZ]
  clear hv1 hv2 ho1 ho2 hab hac had hr1 hr2 hr3 hT hK hpo hbd1 hbd2 hblV hV hXX hzn hZ hA hf hsg hR hRX
  go_enter Tryz.func26, Tryz.ntmps26
  go_upto_region 1 with fail
  rw [← hX]
  clear hX
  first
    | (go_region_held3 (fun w' => (w'.cell? ⟨w.heap.size, 0, none⟩ = some (.int .u64 (p1 : Int)) ∧ w'.cell? ⟨w.heap.size, 1, none⟩ = some (.int .i64 (m1 : Int)) ∧ w'.cell? ⟨w.heap.size, 2, none⟩ = some (.int .i64 (f1 : Int)) ∧ w'.cell? ⟨w.heap.size, 3, none⟩ = some (.bool n1) ∧ w'.cell? ⟨w.heap.size, 4, none⟩ = some v1 ∧ w'.cell? ⟨w.heap.size, 5, none⟩ = some (.int .i64 e1)) ∧ (w'.cell? ⟨w.heap.size + 1, 0, none⟩ = some (.int .u64 (p2 : Int)) ∧ w'.cell? ⟨w.heap.size + 1, 1, none⟩ = some (.int .i64 (m2 : Int)) ∧ w'.cell? ⟨w.heap.size + 1, 2, none⟩ = some (.int .i64 (f2 : Int)) ∧ w'.cell? ⟨w.heap.size + 1, 3, none⟩ = some (.bool n2) ∧ w'.cell? ⟨w.heap.size + 1, 4, none⟩ = some v2 ∧ w'.cell? ⟨w.heap.size + 1, 5, none⟩ = some (.int .i64 e2)))
        ((first | (refine ksT2 HR1.out HR2.out ?_; with_reducible first | assumption | exact Below.drew hcc) | with_reducible exact ⟨ks6R hN1.out (ks6R hN1.out (ks6R hN1.out (ks6R hN1.out (ks6R hN1.out (ks6R hN1.out (ks12 HR1.out hb7).2))))), ks6R hN2.out (ks6R hN2.out (ks6R hN2.out (ks6R hN2.out (ks6R hN2.out (ks6R hN2.out (ks12 HR2.out hb7).2)))))⟩))
        (first
          | (go_at_call 50; (with_reducible refine (float_any P F p2 m2 f2 n2 v2 e2 ys _ (V2.out.below hb4) HO2.out (by omega) (by omega)).mono ?_); rintro _ w5 ⟨g2, rfl, hF2, hb5⟩; have G0' := Lib.hid (G0.out.below hb5); have G1' := Lib.hid (G1.out.below hb5); have G2 := Lib.hid hF2; have hne2 := Lib.hid (show g0 ≠ g2 by have := G0.out.lt; have := hF2.1; omega); have hne3 := Lib.hid (show g1 ≠ g2 by obtain ⟨_, _, hr⟩ := G1.out.row; have := hr.lt; have := hF2.1; omega); clear hF2; have hb5 := bthen hb4 hb5)
          | (go_at_call 50; (with_reducible refine (float_any P E p1 m1 f1 n1 v1 e1 xs _ (V1.out.below hb3) HO1.out (by omega) (by omega)).mono ?_); rintro _ w4 ⟨g1, rfl, hF1, hb4⟩; have G0 := Lib.hid (GF.out.below hb4); have G1 := Lib.hid hF1; have hne1 := Lib.hid (show g0 ≠ g1 by have := GF.out.lt; have := hF1.1; omega); clear hF1; have hb4 := bthen hb3 hb4)
          | (go_at_call 48; refine (fresh_all q k _ (by omega) (by omega)).mono ?_; rintro _ w3 ⟨g0, rfl, ⟨hg0, hF0⟩, hb3⟩; have hg0X : X.heap.size ≤ g0 := (by rw [hg0]; exact Nat.le_refl _); clear hg0; have GF := Lib.hid hF0; clear hF0; have hb3 : Below X.heap.size X w3 := bthen (Below.drew hcc) hb3)
          | (go_at_call 57; (with_reducible refine (HADD.out _ g0 g1 g2 _ _ G0'.out hg0X G1'.out G2.out hne1.out hne2.out hne3.out (HK.out.below hb5)).mono ?_); rintro _ w6 ⟨rfl, hA6, hb6⟩; have F6 := Lib.hid (HIN.out _ _ hA6); clear hA6; have hb6 := bthenX hb5 hb6)
          | (go_at_call 56; (with_reducible refine (implBoth _ g0 Z k f A _ _ _ _ F6.out hf2' (by have := HPO.out; omega) (by omega) (fun _ => HPO.out.2) (fun _ => HRB.out) (HT.out.below hb6) hAb).mono ?_); rintro _ w7 ⟨z, rfl, hz, hb7⟩; have hb7 := bthen hb6 hb7; have hq2 := keep_row hb7 HR3.out; obtain ⟨vz, Ez, zs, Bz, rfl, hz2, hzd, hz3, hz4⟩ := hz; have hSz := hz2.isS; obtain ⟨⟨y0, y1, y2, y3, y4, y5⟩, s0, s1, s2, s3, s4, s5⟩ := row6 hq2; have H2 := Lib.hid hz2; have H34 := Lib.hid (And.intro hzd (And.intro hz3 hz4)); have HQ2 := Lib.hid hq2; clear hz2 hzd hz3 hz4 hq2)))
    | fail
  all_goals go_wp2_with fail
  all_goals
    have HS := row6_set (x := .int .u64 (Z : Int)) (y := .int .i64 (k : Int)) (z := .int .i64 (f : Int)) (x' := .bool sg) (y' := vz) (z' := .int .i64 Ez) HQ2.out
    have HB := bset6 (x := .int .u64 (Z : Int)) (y := .int .i64 (k : Int)) (z := .int .i64 (f : Int)) (x' := .bool sg) (y' := vz) (z' := .int .i64 Ez) (hwX.out.trans (hb7.mono hXs)) (Nat.le_trans (Nat.le_succ _) (Nat.le_succ _))
    obtain ⟨⟨a0, a1, a2, a3, a4, a5⟩, -⟩ := row6 HS
    refine bodyPost_ret (v := .tuple #[.agg #[.int .u64 Z, .int .i64 k, .int .i64 f, .bool sg, vz, .int .i64 Ez], .int .i64 A]) ?_ rfl ⟨_, _, rfl, HOUT.out _ _ ⟨_, _, _, Bz, rfl, ?_, H34.out.1, H34.out.2⟩, HB⟩
    · simp [results, Tryz.results26, go_sem, a0, a1, a2, a3, a4, a5]
    · exact H2.out.same fun hc => by
        have hne : sBlk vz ≠ w.heap.size + 2 := H2.out.ne_row HQ2.out (by decide) hc
        exact heap6_other hne
theorem impMul (P E q k p1 m1 f1 p2 m2 f2 : Nat) (n1 n2 : Bool) (v1 v2 : Value) (e1 e2 : Int) (xs ys : List Nat) (w : World) (hv1 : RW w v1 xs) (hv2 : RW w v2 ys) (ho1 : RealOk P E p1 m1 f1 xs e1) (ho2 : RealOk P E p2 m2 f2 ys e2) (hf1 : f1 ≤ 1) (hf2 : f2 ≤ 1) (hP : P ≤ 2400) (hE : E ≤ 400000) (hq : q ≤ 1000000) (hk : k ≤ 5) (hT : TabW w) (hK : KarW w) :
    Calls Tryz.prog 26 #[.int .u64 q, .int .i64 k, .agg #[.int .u64 p1, .int .i64 m1, .int .i64 f1, .bool n1, v1, .int .i64 e1], .agg #[.int .u64 p2, .int .i64 m2, .int .i64 f2, .bool n2, v2, .int .i64 e2]] w fun e' w' => ∃ z A, e' = .returned (.tuple #[z, .int .i64 A]) ∧ AddZ w' z A (pOf q (max p1 p2)) k (n1 != n2) (sI (n1 != n2) (dyM f1 (wv xs) * dyM f2 (wv ys))) (dyE f1 e1 + dyE f2 e2) ∧ Below w.heap.size w w' :=
  impMulX P E E q k p1 m1 f1 p2 m2 f2 n1 n2 v1 v2 e1 e2 xs ys w hv1 hv2 ho1 ho2 hf1 hf2 hP (by omega) (by omega) hq hk hT hK
theorem topN_word {M : Nat} (h : 0 < M) (hM : M < 18446744073709551616) : topN M = [M * 2 ^ (64 - bl M)] := by
  have hb : bl M ≤ 64 := bl_le (k := 64) hM
  have hp := bl_pos h
  have hn : nw M = 1 := by have := nw_bl h; omega
  have hl : M * 2 ^ (64 - bl M) < 18446744073709551616 := by
    have h1 : M * 2 ^ (64 - bl M) < 2 ^ bl M * 2 ^ (64 - bl M) := Nat.mul_lt_mul_of_pos_right (lt_bl M) (Nat.two_pow_pos _)
    rw [← Nat.pow_add, show bl M + (64 - bl M) = 64 by omega] at h1
    exact h1
  unfold topN wdsN
  rw [hn, Nat.mul_one]
  simp only [List.range_succ, List.range_zero, List.nil_append, List.map_cons, List.map_nil]
  unfold wdg
  rw [Nat.pow_zero, Nat.div_one, Nat.mod_eq_of_lt hl]
theorem obM_zero {b : Nat} (h : b % 9223372036854775808 = 0) : obM b = 0 := by unfold obM; rw [if_pos (by omega), h]
theorem obM_pos {b : Nat} (h : 0 < b % 9223372036854775808) : 0 < obM b := by unfold obM; split <;> omega
theorem bl_obM (b : Nat) : bl (obM b) ≤ 53 := bl_le (show obM b < 2 ^ 53 by have := obM_bd b; omega)
set_option maxRecDepth 100000 in
set_option maxHeartbeats 3200000 in
theorem setF64_val (b B p m f : Nat) (a e : Int) (neg0 : Bool) (x : Nat) (w : World) (h : FltR w b p m a f neg0 (.slice none 0 0) e) (hB : B ≤ b) (hp : p ≤ 64000000) (hm : m ≤ 5) (hx : x < 18446744073709551616) (hf : obF x) :
    Calls Tryz.prog 63 #[.pointer (some ⟨b, 0, none⟩), .float .f64 x] w fun e' w' => e' = .returned (.pointer (some ⟨b, 0, none⟩)) ∧ FVal w' B b (pD p 53) m (sbA (pD p 53) m (obN x) (obM x)) (fO (obM x)) (obN x) (rQ (pD p 53) m (obN x) 0 (obM x)) (obE x + rk (pD p 53) (obM x)) ∧ Below B w w' := by
  obtain ⟨c0, c1, c2, c3, c4, c5, c6⟩ := h.cells
  obtain ⟨f0, f1, f2, f3, f4, f5, f6⟩ := h.free
  have hlt := h.lt
  have hq0 : 0 < pD p 53 := pD_pos (by decide)
  have hqb : pD p 53 ≤ 64000000 := pD_le hp (by decide)
  have HNA := Lib.hid (fun W => mIsNaN x W hx (.inl hf))
  have HSB := Lib.hid (fun W => mSignbit x W hx)
  have HIN := Lib.hid (fun W => mIsInf x false W hx (ord_max (r := x % 9223372036854775808) hf))
  have hz := ord_zero hx hf
  rcases Nat.eq_zero_or_pos (x % 9223372036854775808) with hx0 | hx0
  · have hM := obM_zero hx0
    rw [hM, decide_eq_true rfl] at hz
    rw [hM]
    obtain ⟨n, hn⟩ : ∃ n, n = obN x := ⟨_, rfl⟩
    rw [← hn] at HSB ⊢
    have HF : Hid (∀ w', FltR w' b (pD p 53) m 0 0 n (.slice none 0 0) e → FVal w' B b (pD p 53) m (sbA (pD p 53) m n 0) (fO 0) n (rQ (pD p 53) m n 0 0) (obE x + rk (pD p 53) 0)) := Lib.hid (fun w' hw => ⟨_, _, hw, fun hc => absurd hc (by decide)⟩)
    clear hx0 hn hM hf hq0 hqb HIN
    by_cases hp0 : p = 0
    · have t0 : ((p : Int) == 0) = true := by rw [hp0]; rfl
      have HP : pD p 53 = 53 := by unfold pD; rw [if_pos hp0]
      have R4 := Lib.hid ((((h.s0 53).s2 0).s4 n).s3 0)
      have B4 := Lib.hid (bset (i := 3) (u := .int .u8 (0 : Int)) (bset (i := 4) (u := .bool n) (bset (i := 2) (u := .int .i8 0) (bset (i := 0) (u := .int .u32 (53 : Int)) (Below.refl B w) hB) hB) hB) hB)
      rw [HP] at HF ⊢
      clear h hp0 HP
      go_enter Tryz.func63, Tryz.ntmps63
      go_wp2_with fail
      refine (HNA.out _).mono ?_
      rintro _ _ ⟨rfl, rfl⟩
      go_wp2_with fail
      refine (HSB.out _).mono ?_
      rintro _ _ ⟨rfl, rfl⟩
      go_wp2
      go_ret
      exact ⟨rfl, HF.out _ R4.out, B4.out⟩
    · have t0 : ((p : Int) == 0) = false := by rw [beq_eq_false_iff_ne]; omega
      have HP : pD p 53 = p := by unfold pD; rw [if_neg hp0]
      have R4 := Lib.hid (((h.s2 0).s4 n).s3 0)
      have B4 := Lib.hid (bset (i := 3) (u := .int .u8 (0 : Int)) (bset (i := 4) (u := .bool n) (bset (i := 2) (u := .int .i8 0) (Below.refl B w) hB) hB) hB)
      rw [HP] at HF ⊢
      clear h hp0 HP
      go_enter Tryz.func63, Tryz.ntmps63
      go_wp2_with fail
      refine (HNA.out _).mono ?_
      rintro _ _ ⟨rfl, rfl⟩
      go_wp2_with fail
      refine (HSB.out _).mono ?_
      rintro _ _ ⟨rfl, rfl⟩
      go_wp2
      go_ret
      exact ⟨rfl, HF.out _ R4.out, B4.out⟩
  · have hM := obM_pos hx0
    rw [decide_eq_false (by omega)] at hz
    obtain ⟨F, x0, ⟨n1, n2, n3, n4⟩, hfr⟩ := mFrexp x hx hf hx0
    have HFR := Lib.hid hfr
    have hE := obE_bd hf
    have hbp := bl_pos hM
    have hS : obS x = 0 ∨ obS x = 9223372036854775808 := by unfold obS; split <;> simp
    obtain ⟨S, hSS⟩ : ∃ S, S = obS x := ⟨_, rfl⟩
    rw [← hSS] at HFR hS
    obtain ⟨r, hr⟩ : ∃ r, r = S + 4602678819172646912 + F := ⟨_, rfl⟩
    rw [← hr] at HFR
    have hrl : r < 18446744073709551616 := by omega
    have hshl : (r : Int) * 2048 % 18446744073709551616 = ((F * 2048 : Nat) : Int) := by omega
    have hshw : IntKind.u64.wrap ((r : Int) * 2048) = ((F * 2048 : Nat) : Int) := by rw [IntKind.wrap_u64]; exact hshl
    have hor := or_top n1
    obtain ⟨G, hG⟩ : ∃ G, G = F * 2048 := ⟨_, rfl⟩
    rw [← hG] at hshl hshw hor
    obtain ⟨y, hy⟩ : ∃ y, y = 9223372036854775808 + G := ⟨_, rfl⟩
    rw [← hy] at hor
    have hyM : y = obM x * 2 ^ (64 - bl (obM x)) := by
      rw [show 64 - bl (obM x) = (53 - bl (obM x)) + 11 by omega, Nat.pow_add, ← Nat.mul_assoc, ← n2]; omega
    have hy1 : y < 18446744073709551616 := by omega
    have hy2 : 9223372036854775808 ≤ y := by omega
    have hMl : obM x < 18446744073709551616 := by have := obM_bd x; omega
    have htop : topN (obM x) = [y] := by rw [hyM]; exact topN_word hM hMl
    have HGD : Hid (∀ Q, 53 ≤ Q → Good [y] Q) := Lib.hid (fun Q hQ => by
      rw [← htop]; exact topN_good hM (by have := bl_obM x; omega) (by have := nw_bl hM; have := bl_obM x; omega))
    have HD : Hid (∀ (Q : Nat) (w' : World), FVal w' B b Q m (rA Q m (obN x) 0 y) 1 (obN x) (rQ Q m (obN x) 0 y) (x0 - 64 * (([y] : List Nat).length : Int) + rk Q y) →
        FVal w' B b Q m (sbA Q m (obN x) (obM x)) (fO (obM x)) (obN x) (rQ Q m (obN x) 0 (obM x)) (obE x + rk Q (obM x))) := Lib.hid (fun Q w' hw => by
      have := fval_trans hw (by omega) (show deq _ _ (obM x) (obE x) from ⟨0, 64 - bl (obM x), by rw [hyM]; simp, by simp; omega⟩)
      unfold sbA fO; rw [if_neg (by omega), if_neg (by omega)]; exact this)
    have hx0b : -1100 ≤ x0 ∧ x0 ≤ 1100 := by have := bl_obM x; omega
    obtain ⟨n, hn⟩ : ∃ n, n = obN x := ⟨_, rfl⟩
    rw [← hn] at HSB HD ⊢
    have HTL : Hid (∀ w5, FltR w5 b (pD p 53) m 0 1 n (.slice none 0 0) e → Below B w w5 → ∀ k, Calls Tryz.prog 107 #[.slice none 0 0, .int .u64 y] (w5.drewN k) fun e' w' => ∃ v, e' = .returned v ∧ IsS v ∧
        (FltR w' b (pD p 53) m 0 1 n (.slice none 0 0) e ∧ FltR ((w'.setCell ⟨b, 5, none⟩ v).setCell ⟨b, 6, none⟩ (.int .i32 x0)) b (pD p 53) m 0 1 n v x0 ∧ Own ((w'.setCell ⟨b, 5, none⟩ v).setCell ⟨b, 6, none⟩ (.int .i32 x0)) B 116 v (cellsW [y]) ∧ Below B w ((w'.setCell ⟨b, 5, none⟩ v).setCell ⟨b, 6, none⟩ (.int .i32 x0)))) := Lib.hid (fun w5 h5 hb5 k => by
      refine (setUint64_nil y (w5.drewN k) (by omega) hy1).mono ?_
      rintro _ w' ⟨v, rfl, ho, hb⟩
      have hBs : B ≤ w5.heap.size := by have := h5.lt; omega
      have hb' := undrewN hb
      have R5 := h5.below hb'
      have ho' : Own w' w5.heap.size 116 v (cellsW [y]) := ho
      exact ⟨v, rfl, ho.isS, R5, (R5.s5 v).s6 _, (R5.s5 v).own (R5.own (ho'.mono hBs) 5 v) 6 _, bset (bset (hb5.trans (hb'.mono hBs)) hB) hB⟩)
    have HRD : Hid (∀ (w' : World) (v : Value), FltR w' b (pD p 53) m 0 1 n v x0 → Own w' B 116 v (cellsW [y]) → Calls Tryz.prog 108 #[.pointer (some ⟨b, 0, none⟩), .int .u64 0] w' fun e' w'' => e' = .returned (.tuple #[]) ∧ FVal w'' B b (pD p 53) m (sbA (pD p 53) m n (obM x)) (fO (obM x)) n (rQ (pD p 53) m n 0 (obM x)) (obE x + rk (pD p 53) (obM x)) ∧ Below B w' w'') := Lib.hid (fun w' v hf ho => by
      have hg := good_word (p := 64) hy1 hy2 (Nat.le_refl _)
      have hr := round_any b B (pD p 53) m 0 0 x0 n v [y] w' hf hB ho hg.2.2.1 Nat.one_pos hg.2.2.2.1 (by simp) hq0 hqb hm (by decide) (.inl rfl) (by omega) (by omega)
      rw [show ((0 : Nat) : Int) = 0 from rfl] at hr
      refine hr.mono ?_
      rintro _ w'' ⟨rfl, hR⟩
      have hQ : 0 < rQ (pD p 53) m n 0 (wv [y]) := rQ_pos n 0 hq0 (by rw [wv_one]; omega)
      have F := hR.val hQ
      obtain ⟨_, _, _, -, -, -, -, hb8⟩ := hR
      rw [wv_one] at F
      exact ⟨rfl, HD.out _ _ F, hb8⟩)
    have HEX : Hid (53 ≤ pD p 53 → ∀ (w' : World) (v : Value), FltR w' b (pD p 53) m 0 1 n v x0 → Own w' B 116 v (cellsW [y]) → FVal w' B b (pD p 53) m (sbA (pD p 53) m n (obM x)) (fO (obM x)) n (rQ (pD p 53) m n 0 (obM x)) (obE x + rk (pD p 53) (obM x))) := Lib.hid (fun h64 w' v hf ho => by
      have F := fval_rnd hf ho (HGD.out _ h64) hq0
      rw [wv_one] at F
      exact HD.out _ _ F)
    clear hn hr hG hy hyM htop HD HGD hfr n2 n3 n4 hE hbp hSS hM hx0 hf
    by_cases hp0 : p = 0
    · have t0 : ((p : Int) == 0) = true := by rw [hp0]; rfl
      have HP : pD p 53 = 53 := by unfold pD; rw [if_pos hp0]
      have R4 := Lib.hid ((((h.s0 53).s2 0).s4 n).s3 1)
      have B4 := Lib.hid (bset (i := 3) (u := .int .u8 (1 : Int)) (bset (i := 4) (u := .bool n) (bset (i := 2) (u := .int .i8 0) (bset (i := 0) (u := .int .u32 (53 : Int)) (Below.refl B w) hB) hB) hB) hB)
      rw [HP] at HTL HEX ⊢
      clear h hp0 HRD HP
      go_enter Tryz.func63, Tryz.ntmps63
      go_wp2_with fail
      refine (HNA.out _).mono ?_
      rintro _ _ ⟨rfl, rfl⟩
      go_wp2_with fail
      refine (HSB.out _).mono ?_
      rintro _ _ ⟨rfl, rfl⟩
      go_wp2_with fail
      refine (HIN.out _).mono ?_
      rintro _ _ ⟨rfl, rfl⟩
      go_wp2_with fail
      refine (HFR.out _).mono ?_
      rintro _ _ ⟨rfl, rfl⟩
      go_wp2_with fail
      (refine wp_region_hoist 9 (by kernel_rfl) (by kernel_rfl) ⟨fun _ _ _ h => (by first | exact (hQp _ _ _ h).elim | cases h.2.1 | (obtain ⟨_, h3, _⟩ := h.2; cases h3)), fun _ _ h => (by first | exact (hQo _ _ h).elim | cases h.1 | (obtain ⟨_, h3, _⟩ := h; cases h3))⟩ ?_; simp only [List.take_succ_cons, List.take_zero, List.drop_succ_cons, List.drop_zero]; (repeat (go_big_quiet_step (fail))); refine wpQuiet_nil ?_; rintro _ ⟨nq, rfl⟩)
      go_wp2_with fail
      refine (HTL.out _ R4.out B4.out _).mono ?_
      rintro _ w5 ⟨v, rfl, hSv, R5, F5, O, BF⟩
      obtain ⟨d0, d1, d2, d3, d4, d5, d6⟩ := R5.cells
      obtain ⟨g0, g1, g2, g3, g4, g5, g6⟩ := R5.free
      have d0' : w5.cell? ⟨b, 0, none⟩ = some (.int .u32 53) := d0
      have HV := Lib.hid (HEX.out (Nat.le_refl _) _ _ F5 O)
      have HB := Lib.hid BF
      clear c0 c1 c2 c3 c4 c5 c6 f0 f1 f2 f3 f4 f5 f6 d0 R5 F5 O BF
      go_wp2
      go_ret
      exact ⟨rfl, HV.out, HB.out⟩
    · have t0 : ((p : Int) == 0) = false := by rw [beq_eq_false_iff_ne]; omega
      have HP : pD p 53 = p := by unfold pD; rw [if_neg hp0]
      have R4 := Lib.hid (((h.s2 0).s4 n).s3 1)
      have B4 := Lib.hid (bset (i := 3) (u := .int .u8 (1 : Int)) (bset (i := 4) (u := .bool n) (bset (i := 2) (u := .int .i8 0) (Below.refl B w) hB) hB) hB)
      rw [HP] at HTL HEX HRD ⊢
      clear h hp0 HP
      by_cases hp64 : p < 53
      · have t2 : decide (p < 53) = true := decide_eq_true hp64
        have t2' : decide ((p : Int) < 53) = true := decide_eq_true (by omega)
        clear hp64 HEX
        go_enter Tryz.func63, Tryz.ntmps63
        go_wp2_with fail
        refine (HNA.out _).mono ?_
        rintro _ _ ⟨rfl, rfl⟩
        go_wp2_with fail
        refine (HSB.out _).mono ?_
        rintro _ _ ⟨rfl, rfl⟩
        go_wp2_with fail
        refine (HIN.out _).mono ?_
        rintro _ _ ⟨rfl, rfl⟩
        go_wp2_with fail
        refine (HFR.out _).mono ?_
        rintro _ _ ⟨rfl, rfl⟩
        go_wp2_with fail
        (refine wp_region_hoist 9 (by kernel_rfl) (by kernel_rfl) ⟨fun _ _ _ h => (by first | exact (hQp _ _ _ h).elim | cases h.2.1 | (obtain ⟨_, h3, _⟩ := h.2; cases h3)), fun _ _ h => (by first | exact (hQo _ _ h).elim | cases h.1 | (obtain ⟨_, h3, _⟩ := h; cases h3))⟩ ?_; simp only [List.take_succ_cons, List.take_zero, List.drop_succ_cons, List.drop_zero]; (repeat (go_big_quiet_step (fail))); refine wpQuiet_nil ?_; rintro _ ⟨nq, rfl⟩)
        go_wp2_with fail
        refine (HTL.out _ R4.out B4.out _).mono ?_
        rintro _ w5 ⟨v, rfl, hSv, R5, F5, O, BF⟩
        obtain ⟨d0, d1, d2, d3, d4, d5, d6⟩ := R5.cells
        obtain ⟨g0, g1, g2, g3, g4, g5, g6⟩ := R5.free
        have HV := Lib.hid (HRD.out _ _ F5 O)
        have HB := Lib.hid BF
        clear c0 c1 c2 c3 c4 c5 c6 f0 f1 f2 f3 f4 f5 f6 R5 F5 O BF
        go_wp2_with fail
        refine HV.out.mono ?_
        rintro _ w8 ⟨rfl, hv8, hb8⟩
        have H8 := Lib.hid hv8
        have B8 := Lib.hid (HB.out.trans hb8)
        clear hv8 hb8
        go_wp2
        go_ret
        exact ⟨rfl, H8.out, B8.out⟩
      · have t2 : decide (p < 53) = false := decide_eq_false hp64
        have t2' : decide ((p : Int) < 53) = false := decide_eq_false (by omega)
        have H64 := Lib.hid (show 53 ≤ p by omega)
        clear hp64 HRD
        go_enter Tryz.func63, Tryz.ntmps63
        go_wp2_with fail
        refine (HNA.out _).mono ?_
        rintro _ _ ⟨rfl, rfl⟩
        go_wp2_with fail
        refine (HSB.out _).mono ?_
        rintro _ _ ⟨rfl, rfl⟩
        go_wp2_with fail
        refine (HIN.out _).mono ?_
        rintro _ _ ⟨rfl, rfl⟩
        go_wp2_with fail
        refine (HFR.out _).mono ?_
        rintro _ _ ⟨rfl, rfl⟩
        go_wp2_with fail
        (refine wp_region_hoist 9 (by kernel_rfl) (by kernel_rfl) ⟨fun _ _ _ h => (by first | exact (hQp _ _ _ h).elim | cases h.2.1 | (obtain ⟨_, h3, _⟩ := h.2; cases h3)), fun _ _ h => (by first | exact (hQo _ _ h).elim | cases h.1 | (obtain ⟨_, h3, _⟩ := h; cases h3))⟩ ?_; simp only [List.take_succ_cons, List.take_zero, List.drop_succ_cons, List.drop_zero]; (repeat (go_big_quiet_step (fail))); refine wpQuiet_nil ?_; rintro _ ⟨nq, rfl⟩)
        go_wp2_with fail
        refine (HTL.out _ R4.out B4.out _).mono ?_
        rintro _ w5 ⟨v, rfl, hSv, R5, F5, O, BF⟩
        obtain ⟨d0, d1, d2, d3, d4, d5, d6⟩ := R5.cells
        obtain ⟨g0, g1, g2, g3, g4, g5, g6⟩ := R5.free
        have HV := Lib.hid (HEX.out H64.out _ _ F5 O)
        have HB := Lib.hid BF
        clear c0 c1 c2 c3 c4 c5 c6 f0 f1 f2 f3 f4 f5 f6 R5 F5 O BF
        go_wp2
        go_ret
        exact ⟨rfl, HV.out, HB.out⟩
theorem fO_le (M : Nat) : fO M ≤ 2 := by unfold fO; split <;> omega
theorem sbA_bd (p m : Nat) (neg : Bool) (M : Nat) : -1 ≤ sbA p m neg M ∧ sbA p m neg M ≤ 1 := by
  unfold sbA rA; repeat' split
  all_goals omega
theorem rQ_rngE (p m M : Nat) (neg : Bool) (E : Int) (h : bl M ≤ 1000000) (hE : -1074 ≤ E ∧ E ≤ 971) : -2140000000 ≤ E + ((rk p M : Nat) : Int) ∧ E + ((rk p M : Nat) : Int) + bl (rQ p m neg 0 M) ≤ 2140000000 := by
  have h1 := rk_le p M
  have h2 := bl_rQ p m neg 0 M
  omega
set_option maxRecDepth 100000 in
set_option maxHeartbeats 1600000 in
theorem impSetFloat64 (q k : Nat) (x : Nat) (w : World) (hq : q ≤ 1000000) (hk : k ≤ 5) (hx : x < 18446744073709551616) (hf : obF x) (hT : TabW w) :
    Calls Tryz.prog 32 #[.int .u64 q, .int .i64 k, .int .u64 x] w fun e' w' => ∃ z, e' = .returned (.tuple #[z, .int .i64 (sbA (pD q 53) k (obN x) (obM x))]) ∧ RealV w' z (pD q 53) k (fO (obM x)) (obN x) (rQ (pD q 53) k (obN x) 0 (obM x)) (obE x + rk (pD q 53) (obM x)) ∧ Below w.heap.size w w' := by
  have hac := (Below.refl w.heap.size w).alloc (Nat.le_refl _) (.cells #[.int .u64 0, .int .i64 0, .int .i64 0, .bool false, .slice none 0 0, .int .i64 0] 42)
  obtain ⟨X, hX⟩ : ∃ X, X = w.alloc (.cells #[.int .u64 0, .int .i64 0, .int .i64 0, .bool false, .slice none 0 0, .int .i64 0] 42) := ⟨_, rfl⟩
  have hr2 : X.heap[w.heap.size]? = some (.cells #[.int .u64 0, .int .i64 0, .int .i64 0, .bool false, .slice none 0 0, .int .i64 0] 42 (0, 0)) := by
    rw [hX]; exact row_chain11
  rw [← hX] at hac
  have HT := Lib.hid (hT.below hac)
  have HR2 := Lib.hid hr2
  have hwX := Lib.hid hac
  have hcc := Below.refl X.heap.size X
  have hXs := hac.size
  have hX2 : w.heap.size + 1 ≤ X.heap.size := by rw [hX]; simp
  have hpo : pD q 53 ≤ 1000000 ∧ 0 < pD q 53 := ⟨pD_le hq (by decide), pD_pos (by decide)⟩
  have HF := Lib.hid (fun g n0 (W : World) h1 h2 => setF64_val g X.heap.size q k 0 0 0 n0 x W h1 h2 (by omega) hk hx hf)
  obtain ⟨neg, hneg⟩ : ∃ neg, neg = obN x := ⟨_, rfl⟩
  obtain ⟨M, hM⟩ : ∃ M, M = obM x := ⟨_, rfl⟩
  have hbM : bl M ≤ 1000000 := Nat.le_trans (by rw [hM]; exact bl_obM x) (by decide)
  obtain ⟨E, hE⟩ : ∃ E, E = obE x := ⟨_, rfl⟩
  have hEb : -1074 ≤ E ∧ E ≤ 971 := by rw [hE]; exact obE_bd hf
  rw [← hneg, ← hM, ← hE] at HF
  rw [← hneg, ← hM, ← hE]
  obtain ⟨A, hA⟩ : ∃ A, A = sbA (pD q 53) k neg M := ⟨_, rfl⟩
  have hAb : -1 ≤ A ∧ A ≤ 1 := by rw [hA]; exact sbA_bd _ _ _ _
  rw [← hA] at HF
  rw [← hA]
  obtain ⟨Z, hZ⟩ : ∃ Z, Z = pD q 53 := ⟨_, rfl⟩
  rw [← hZ] at HF hpo
  rw [← hZ]
  have hq64 : q ≤ 64000000 := by omega
  have HRG := Lib.hid (rQ_rngE Z k M neg E hbM hEb)
  obtain ⟨f, hfM⟩ : ∃ f, f = fO M := ⟨_, rfl⟩
  have hf2 : f ≤ 2 := by rw [hfM]; exact fO_le M
  rw [← hfM] at HF
  rw [← hfM]
  clear hac hr2 hT hA hZ hfM hneg hM hE hx hf
  go_enter Tryz.func32, Tryz.ntmps32
  go_upto_region 1 with fail
  rw [← hX]
  clear hX
  go_wp2_with fail
  refine (fresh_all q k _ hq64 (by omega)).mono ?_
  rintro _ w3 ⟨g1, rfl, ⟨hg1, hF1⟩, hb3⟩
  have hb3 : Below X.heap.size X w3 := hb3
  have hg1X : X.heap.size ≤ g1 := by rw [hg1]; exact Nat.le_refl _
  clear hg1
  have hBg := hb3.size
  go_wp2_with fail
  refine (HF.out g1 _ w3 hF1 hg1X).mono ?_
  rintro _ w5 ⟨rfl, hF5, hb5⟩
  have hb5 : Below X.heap.size X w5 := hb3.trans hb5
  have hBg5 := hb5.size
  clear HF hF1
  go_wp2_with fail
  refine (implBoth _ g1 Z k f A _ _ _ _ hF5 hf2 (by omega) (by omega) (fun _ => hpo.2) (fun _ => HRG.out) (HT.out.below hb5) hAb).mono ?_
  rintro _ w6 ⟨z, rfl, hz, hb6⟩
  have hb6 := bthen hb5 hb6
  have hq2 := keep_row hb6 HR2.out
  obtain ⟨vz, Ez, zs, Bz, rfl, hz2, hzd, hz3, hz4⟩ := hz
  have hSz := hz2.isS
  obtain ⟨⟨y0, y1, y2, y3, y4, y5⟩, s0, s1, s2, s3, s4, s5⟩ := row6 hq2
  have H2 := Lib.hid hz2
  have H34 := Lib.hid (And.intro hzd (And.intro hz3 hz4))
  have HQ2 := Lib.hid hq2
  clear hz2 hzd hz3 hz4 hq2 hF5
  go_wp2_with fail
  have HS := row6_set (x := .int .u64 (Z : Int)) (y := .int .i64 (k : Int)) (z := .int .i64 (f : Int)) (x' := .bool neg) (y' := vz) (z' := .int .i64 Ez) HQ2.out
  have HB := bset6 (x := .int .u64 (Z : Int)) (y := .int .i64 (k : Int)) (z := .int .i64 (f : Int)) (x' := .bool neg) (y' := vz) (z' := .int .i64 Ez) (hwX.out.trans (hb6.mono hXs)) (Nat.le_refl _)
  obtain ⟨⟨a0, a1, a2, a3, a4, a5⟩, -⟩ := row6 HS
  refine bodyPost_ret (v := .tuple #[.agg #[.int .u64 Z, .int .i64 k, .int .i64 f, .bool neg, vz, .int .i64 Ez], .int .i64 A]) ?_ rfl ⟨_, rfl, ⟨_, _, _, Bz, rfl, ?_, H34.out.1, H34.out.2⟩, HB⟩
  · simp [results, Tryz.results32, go_sem, a0, a1, a2, a3, a4, a5]
  · exact H2.out.same fun hc => by
      have hne : sBlk vz ≠ w.heap.size := H2.out.ne_row HQ2.out (by decide) hc
      exact heap6_other hne
end Go.Proofs.YtllhnjpnkmjopaaGreatDoor
