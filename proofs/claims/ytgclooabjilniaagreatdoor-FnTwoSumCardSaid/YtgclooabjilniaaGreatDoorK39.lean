/-
Texts of this proof, joined: TsD. No condition.
-/
import Derived.Test.YtgclooabjilniaaGreatDoorK38
/-
The statement on the error of a sum. No condition.
-/
namespace Go.Proofs.YtgclooabjilniaaGreatDoor
open Go.RowKit

theorem Opd.mono {w : World} {e0 : Int} {k l q m f : Nat} {n : Bool} {v : Value} {E : Int} {zs : List Nat} {U : Int} (h : Opd w e0 k q m f n v E zs U) (hl : k ≤ l) : Opd w e0 l q m f n v E zs U :=
  ⟨h.1, h.2.1, h.2.2.1, h.2.2.2.1, h.2.2.2.2.1, Nat.le_trans h.2.2.2.2.2 (Nat.pow_le_pow_right (by decide) hl)⟩
theorem rep_vA {p q m f : Nat} {n : Bool} {zs : List Nat} {E e : Int} {T : Nat} (h : RealOk 300 T q m f zs E) (hq : q ≤ p) : Rep p (vA f n (wv zs) E e) := by
  unfold vA
  by_cases hf : f = 1
  · have h1 := h.one hf
    rw [show dyN f n = n from if_pos hf, show dyM f (wv zs) = wv zs from if_pos hf, show dyE f E = E from if_pos hf]
    refine ⟨(E - e).toNat, Mu.of (a := wv zs) (by rw [natAbs_sI]; rfl), ?_⟩
    rw [natAbs_sI]
    exact Nat.mul_le_mul_right _ (Nat.le_of_lt (Nat.lt_of_lt_of_le (lt_bl _) (Nat.pow_le_pow_right (by decide) (by omega))))
  · rw [show dyM f (wv zs) = 0 from if_neg hf, lo_zero, sI_zero]
    exact Rep.zero p
theorem opd_start {w : World} {k q m f e : Nat} {n : Bool} {v : Value} {E : Int} {zs : List Nat} (hv : RW w v zs) (h : RealOk 300 1000 q m f zs E) (hf : f ≤ 1) (he : -(e : Int) ≤ dyE f E) (heb : e ≤ 1000) (hk : 2300 ≤ k) : Opd w (-(e : Int)) k q m f n v E zs (vA f n (wv zs) E (-(e : Int))) := by
  refine ⟨hv, h.mono (by decide), hf, fun hc => by rw [show dyE f E = E from if_pos hc] at he; exact he, rfl, ?_⟩
  unfold vA
  rw [natAbs_sI]
  obtain ⟨h1, h2, h3⟩ := dy_bd h
  unfold lo
  refine Nat.le_of_lt (Nat.lt_of_lt_of_le (lt_bl _) (Nat.pow_le_pow_right (by decide) ?_))
  have := bl_two (dyM f (wv zs)) (dyE f E - -(e : Int)).toNat
  omega
theorem ksR4 {W X : World} {i j k l : Nat} {a b c d e f a' b' c' d' e' f' a2 b2 c2 d2 e2 f2 a3 b3 c3 d3 e3 f3 : Value} {T T' T2 T3 : TypeId} (h1 : W.heap[i]? = some (.cells #[a, b, c, d, e, f] T (0, 0))) (h2 : W.heap[j]? = some (.cells #[a', b', c', d', e', f'] T' (0, 0)))
    (h3 : W.heap[k]? = some (.cells #[a2, b2, c2, d2, e2, f2] T2 (0, 0))) (h4 : W.heap[l]? = some (.cells #[a3, b3, c3, d3, e3, f3] T3 (0, 0))) (h : Below W.heap.size W X) :
    Below W.heap.size W X ∧ ((X.cell? ⟨i, 0, none⟩ = some a ∧ X.cell? ⟨i, 1, none⟩ = some b ∧ X.cell? ⟨i, 2, none⟩ = some c ∧ X.cell? ⟨i, 3, none⟩ = some d ∧ X.cell? ⟨i, 4, none⟩ = some e ∧ X.cell? ⟨i, 5, none⟩ = some f) ∧
      (X.cell? ⟨j, 0, none⟩ = some a' ∧ X.cell? ⟨j, 1, none⟩ = some b' ∧ X.cell? ⟨j, 2, none⟩ = some c' ∧ X.cell? ⟨j, 3, none⟩ = some d' ∧ X.cell? ⟨j, 4, none⟩ = some e' ∧ X.cell? ⟨j, 5, none⟩ = some f')) ∧
      (X.cell? ⟨k, 0, none⟩ = some a2 ∧ X.cell? ⟨k, 1, none⟩ = some b2 ∧ X.cell? ⟨k, 2, none⟩ = some c2 ∧ X.cell? ⟨k, 3, none⟩ = some d2 ∧ X.cell? ⟨k, 4, none⟩ = some e2 ∧ X.cell? ⟨k, 5, none⟩ = some f2) ∧
      (X.cell? ⟨l, 0, none⟩ = some a3 ∧ X.cell? ⟨l, 1, none⟩ = some b3 ∧ X.cell? ⟨l, 2, none⟩ = some c3 ∧ X.cell? ⟨l, 3, none⟩ = some d3 ∧ X.cell? ⟨l, 4, none⟩ = some e3 ∧ X.cell? ⟨l, 5, none⟩ = some f3) :=
  ⟨h, (ksR2 h1 h2 h).2, (ksR2 h3 h4 h).2⟩
/-- Two values that are equal at a lower exponent. -/
theorem ord_eq {a b : Bool} {M N : Nat} {X Y e V : Int} (h1 : sI a M * ((2 ^ (X - e).toNat : Nat) : Int) = V) (h2 : sI b N * ((2 ^ (Y - e).toNat : Nat) : Int) = V) (he : e ≤ min X Y) :
    cmpI (sI a (M * 2 ^ (X - min X Y).toNat)) (sI b (N * 2 ^ (Y - min X Y).toNat)) = 0 := by
  have k1 : sI a (M * 2 ^ (X - min X Y).toNat) * ((2 ^ (min X Y - e).toNat : Nat) : Int) = V := by
    rw [← sI_mul, Nat.mul_assoc, ← Nat.pow_add, show (X - min X Y).toNat + (min X Y - e).toNat = (X - e).toNat by omega, sI_mul, h1]
  have k2 : sI b (N * 2 ^ (Y - min X Y).toNat) * ((2 ^ (min X Y - e).toNat : Nat) : Int) = V := by
    rw [← sI_mul, Nat.mul_assoc, ← Nat.pow_add, show (Y - min X Y).toNat + (min X Y - e).toNat = (Y - e).toNat by omega, sI_mul, h2]
  have hp : ((2 ^ (min X Y - e).toNat : Nat) : Int) ≠ 0 := by have := Nat.two_pow_pos (min X Y - e).toNat; omega
  rw [Int.eq_of_mul_eq_mul_right hp (k1.trans k2.symm)]
  unfold cmpI; rw [if_neg (by omega), if_neg (by omega)]
theorem ofReal0 (P E p f : Nat) (e : Int) (neg : Bool) (v : Value) (ws : List Nat) (w : World) (hv : RW w v ws) (ho : RealOk P E p 0 f ws e) :
    Calls Tryz.prog 23 #[.agg #[.int .u64 p, .int .i64 0, .int .i64 f, .bool neg, v, .int .i64 e]] w fun e' w' => ∃ r, e' = .returned r ∧ DyV w' r (dyN f neg) (dyM f (wv ws)) (dyE f e) ∧ Below w.heap.size w w' :=
  ofReal_any P E p 0 f e neg v ws w hv ho
theorem ordSE (ng nh : Bool) (c h : Value) (X1 X2 : Int) (Mc Mh : Nat) (W : World) (hc : NatV W c Mc) (hh : NatV W h Mh) {V1 V2 e U1 U2 U3 U4 : Int} (h1 : sI ng Mc = V1) (h2 : sI nh Mh = V2) (k1 : V1 * ((2 ^ (X1 - e).toNat : Nat) : Int) = U1 + U2) (k2 : V2 * ((2 ^ (X2 - e).toNat : Nat) : Int) = U3 + U4) (hs : U1 + U2 = U3 + U4) (l1 : e ≤ X1) (l2 : e ≤ X2)
    (g1 : -1000000 ≤ X1 ∧ X1 ≤ 1000000) (g2 : -1000000 ≤ X2 ∧ X2 ≤ 1000000) (hb1 : bl V1.natAbs ≤ 10000) (hb2 : bl V2.natAbs ≤ 10000) :
    Calls Tryz.prog 25 #[.agg #[.bool ng, c, .int .i64 X1], .agg #[.bool nh, h, .int .i64 X2]] W fun e' w' => e' = .returned (.int .i64 0) ∧ Below W.heap.size W w' := by
  have hz := ord_eq (a := ng) (b := nh) (M := Mc) (N := Mh) (X := X1) (Y := X2) (e := e) (V := U1 + U2) (by rw [h1]; exact k1) (by rw [h2, hs]; exact k2) (by omega)
  have n1 : bl Mc ≤ 10000 := by rw [sum_bl h1]; exact hb1
  have n2 : bl Mh ≤ 10000 := by rw [sum_bl h2]; exact hb2
  have t1 := bl_two Mc (X1 - min X1 X2).toNat
  have t2 := bl_two Mh (X2 - min X1 X2).toNat
  have H := dOrder ng nh c h X1 X2 (min X1 X2) Mc Mh (X1 - min X1 X2).toNat (X2 - min X1 X2).toNat W hc hh rfl (by omega) (by omega) (by omega) (by omega) (by omega) (by omega) (by omega) (nl_of_bl (by omega)) (nl_of_bl (by omega)) (by omega) (by omega) (nl_of_bl (by omega)) (nl_of_bl (by omega))
  rw [hz] at H
  exact H
set_option maxRecDepth 100000 in
set_option maxHeartbeats 9600000 in
theorem lawTwoSum (a0 : Int) (p1 : Nat) (m1 f1 : Int) (n1 : Bool) (v1 : Value) (e1 : Int) (xs1 : List Nat) (p2 : Nat) (m2 f2 : Int) (n2 : Bool) (v2 : Value) (e2 : Int) (xs2 : List Nat) (w : World) (hT : TabW w) (l0 : 0 ≤ a0) (h0 : a0 ≤ 65535) (hv1 : RW w v1 xs1) (_hg1 : p1 ≤ 18446744073709551615 ∧ (-9223372036854775808 ≤ m1 ∧ m1 ≤ 9223372036854775807) ∧ (-9223372036854775808 ≤ f1 ∧ f1 ≤ 9223372036854775807) ∧ (-9223372036854775808 ≤ e1 ∧ e1 ≤ 9223372036854775807)) (hv2 : RW w v2 xs2) (_hg2 : p2 ≤ 18446744073709551615 ∧ (-9223372036854775808 ≤ m2 ∧ m2 ≤ 9223372036854775807) ∧ (-9223372036854775808 ≤ f2 ∧ f2 ≤ 9223372036854775807) ∧ (-9223372036854775808 ≤ e2 ∧ e2 ≤ 9223372036854775807)) :
    Calls Tryz.prog 6 #[.int .u16 a0, .agg #[.int .u64 p1, .int .i64 m1, .int .i64 f1, .bool n1, v1, .int .i64 e1], .agg #[.int .u64 p2, .int .i64 m2, .int .i64 f2, .bool n2, v2, .int .i64 e2]] w fun e' w' => e' = .returned (.bool true) ∧ Below w.heap.size w w' := by
  obtain ⟨b0, rfl⟩ := Int.eq_ofNat_of_zero_le l0
  have ib0 : b0 ≤ 65535 := by omega
  have q1 : (b0 : Int) % 297 = ((b0 % 297 : Nat) : Int) := by omega
  have q2 : (4 : Int) + ((b0 % 297 : Nat) : Int) = ((4 + b0 % 297 : Nat) : Int) := by omega
  have hZ4 : 4 ≤ 4 + b0 % 297 := by omega
  have hZ1 : 4 + b0 % 297 ≤ 300 := by omega
  have hrb : b0 % 297 ≤ 296 := by omega
  obtain ⟨Z, hZ⟩ : ∃ Z, Z = 4 + b0 % 297 := ⟨_, rfl⟩
  rw [← hZ] at q2 hZ4 hZ1
  obtain ⟨r, hr⟩ : ∃ r, r = b0 % 297 := ⟨_, rfl⟩
  rw [← hr] at q1 q2 hrb
  clear hZ hr
  have hS1 := hv1.isS
  clear _hg1
  have hS2 := hv2.isS
  clear _hg2
  have hab1 := (Below.refl w.heap.size w).alloc (Nat.le_refl _) (.cells #[.int .u64 p1, .int .i64 m1, .int .i64 f1, .bool n1, v1, .int .i64 e1] 39)
  have hab2 := hab1.alloc hab1.size (.cells #[.int .u64 p2, .int .i64 m2, .int .i64 f2, .bool n2, v2, .int .i64 e2] 39)
  obtain ⟨X, hX⟩ : ∃ X, X = ((w.alloc (.cells #[.int .u64 p1, .int .i64 m1, .int .i64 f1, .bool n1, v1, .int .i64 e1] 39)).alloc (.cells #[.int .u64 p2, .int .i64 m2, .int .i64 f2, .bool n2, v2, .int .i64 e2] 39)) := ⟨_, rfl⟩
  have hr1 : X.heap[w.heap.size]? = some (.cells #[.int .u64 p1, .int .i64 m1, .int .i64 f1, .bool n1, v1, .int .i64 e1] 39 (0, 0)) := by
    rw [hX]; exact row_chain21
  have hr2 : X.heap[w.heap.size + 1]? = some (.cells #[.int .u64 p2, .int .i64 m2, .int .i64 f2, .bool n2, v2, .int .i64 e2] 39 (0, 0)) := by
    rw [hX]; exact row_chain22
  rw [← hX] at hab2
  obtain ⟨-, ⟨⟨c10, c11, c12, c13, c14, c15⟩, ⟨c20, c21, c22, c23, c24, c25⟩⟩⟩ := ksR2 hr1 hr2 (Below.refl _ _)
  have HR1 := Lib.hid hr1
  have V1 := Lib.hid (hv1.below hab2)
  have HR2 := Lib.hid hr2
  have V2 := Lib.hid (hv2.below hab2)
  have hXs := hab2.size
  have HW := Lib.hid hab2
  have T0 := Lib.hid (hT.below hab2)
  clear hT
  clear hr1 hv1 hr2 hv2
  clear hab2 hab1
  go_enter Tryz.func6, Tryz.ntmps6
  go_upto_region 1 with fail
  rw [← hX]
  clear hX
  go_wp2_with fail
  refine (zzFits1_any p1 m1 f1 e1 n1 v1 xs1 X V1.out).mono ?_
  rintro _ w1 ⟨rfl, hb1⟩
  obtain ⟨fits, hfits⟩ : ∃ f, f = decide (xs1.length ≤ 2147483647) := ⟨_, rfl⟩
  rw [← hfits]
  clear c10 c11 c12 c13 c14 c15 c20 c21 c22 c23 c24 c25 hfits
  obtain ⟨-, ⟨⟨c10, c11, c12, c13, c14, c15⟩, ⟨c20, c21, c22, c23, c24, c25⟩⟩⟩ := ksR2 HR1.out HR2.out hb1
  have HB := Lib.hid hb1
  clear hb1
  cases fits with
  | false =>
    go_wp2
    go_ret
    exact ⟨rfl, HW.out.trans (HB.out.mono hXs)⟩
  | true =>
  go_wp2_with fail
  refine (zzFits1_any p2 m2 f2 e2 n2 v2 xs2 w1 (V2.out.below HB.out)).mono ?_
  rintro _ w2 ⟨rfl, hb1⟩
  have hb1 := bthen HB.out hb1
  obtain ⟨fits, hfits⟩ : ∃ f, f = decide (xs2.length ≤ 2147483647) := ⟨_, rfl⟩
  rw [← hfits]
  clear c10 c11 c12 c13 c14 c15 c20 c21 c22 c23 c24 c25 HB hfits
  obtain ⟨-, ⟨⟨c10, c11, c12, c13, c14, c15⟩, ⟨c20, c21, c22, c23, c24, c25⟩⟩⟩ := ksR2 HR1.out HR2.out hb1
  have HB := Lib.hid hb1
  clear hb1
  cases fits with
  | false =>
    go_wp2
    go_ret
    exact ⟨rfl, HW.out.trans (HB.out.mono hXs)⟩
  | true =>
  go_wp2_with fail
  refine (number_any p1 m1 f1 e1 n1 v1 xs1 w2 (V1.out.below HB.out)).mono ?_
  rintro _ w3 ⟨ok, rfl, hok, hb1⟩
  have hb1 := bthen HB.out hb1
  have HO1 := Lib.hid hok
  clear c10 c11 c12 c13 c14 c15 c20 c21 c22 c23 c24 c25 HB hok
  obtain ⟨-, ⟨⟨c10, c11, c12, c13, c14, c15⟩, ⟨c20, c21, c22, c23, c24, c25⟩⟩⟩ := ksR2 HR1.out HR2.out hb1
  have HB := Lib.hid hb1
  clear hb1
  cases ok with
  | false =>
    go_wp2
    go_ret
    exact ⟨rfl, HW.out.trans (HB.out.mono hXs)⟩
  | true =>
  obtain ⟨hn, P1, M1, F1, hp, rfl, rfl, hR⟩ := HO1.out rfl
  have hpp : P1 = p1 := by omega
  subst hpp
  have R1 := Lib.hid hR
  have N1 : Hid (F1 ≠ 2) := Lib.hid (fun h => hn (by rw [h]; rfl))
  clear HO1 hp hR hn
  go_wp2_with fail
  refine (number_any p2 m2 f2 e2 n2 v2 xs2 w3 (V2.out.below HB.out)).mono ?_
  rintro _ w4 ⟨ok, rfl, hok, hb1⟩
  have hb1 := bthen HB.out hb1
  have HO2 := Lib.hid hok
  clear c10 c11 c12 c13 c14 c15 c20 c21 c22 c23 c24 c25 HB hok
  obtain ⟨-, ⟨⟨c10, c11, c12, c13, c14, c15⟩, ⟨c20, c21, c22, c23, c24, c25⟩⟩⟩ := ksR2 HR1.out HR2.out hb1
  have HB := Lib.hid hb1
  clear hb1
  cases ok with
  | false =>
    go_wp2
    go_ret
    exact ⟨rfl, HW.out.trans (HB.out.mono hXs)⟩
  | true =>
  obtain ⟨hn, P2, M2, F2, hp, rfl, rfl, hR⟩ := HO2.out rfl
  have hpp : P2 = p2 := by omega
  subst hpp
  have R2 := Lib.hid hR
  have N2 : Hid (F2 ≠ 2) := Lib.hid (fun h => hn (by rw [h]; rfl))
  clear HO2 hp hR hn
  have hWW := HW.out.trans (HB.out.mono hXs)
  have hV1 := V1.out.below HB.out
  have hr1 := keep_row HB.out HR1.out
  have hV2 := V2.out.below HB.out
  have hr2 := keep_row HB.out HR2.out
  have hT0 := T0.out.below HB.out
  clear T0
  have T0 := Lib.hid hT0
  clear hT0
  clear HW HB hXs V1 HR1 V2 HR2
  have HW := Lib.hid hWW
  have V1 := Lib.hid hV1
  have HR1 := Lib.hid hr1
  have V2 := Lib.hid hV2
  have HR2 := Lib.hid hr2
  have hWs := HW.out.size
  clear hWW hV1 hr1 hV2 hr2
  by_cases hp1 : Z < P1
  · have t1 : decide ((Z : Int) < (P1 : Int)) = true := decide_eq_true (by omega)
    have t1' : decide (Z < P1) = true := decide_eq_true hp1
    go_wp2
    go_ret
    exact ⟨rfl, HW.out⟩
  have t1 : decide ((Z : Int) < (P1 : Int)) = false := decide_eq_false (by omega)
  have t1' : decide (Z < P1) = false := decide_eq_false hp1
  by_cases hp2 : Z < P2
  · have t2 : decide ((Z : Int) < (P2 : Int)) = true := decide_eq_true (by omega)
    have t2' : decide (Z < P2) = true := decide_eq_true hp2
    go_wp2
    go_ret
    exact ⟨rfl, HW.out⟩
  have t2 : decide ((Z : Int) < (P2 : Int)) = false := decide_eq_false (by omega)
  have t2' : decide (Z < P2) = false := decide_eq_false hp2
  have hf1 : F1 ≤ 1 := by have := R1.out.form'; have := N1.out; omega
  have hf2 : F2 ≤ 1 := by have := R2.out.form'; have := N2.out; omega
  obtain ⟨K0, hKK⟩ : ∃ K : Nat, K = 2300 := ⟨_, rfl⟩
  have hK0 : 2300 ≤ K0 := by omega
  have hd1 := dy_bd R1.out
  have hd2 := dy_bd R2.out
  obtain ⟨e, he⟩ : ∃ e : Nat, e = (max 0 (max (-(dyE F1 e1)) (-(dyE F2 e2)))).toNat := ⟨_, rfl⟩
  have heb : e ≤ 1000 := by omega
  have hX := opd_start (n := n1) V1.out R1.out hf1 (show -(e : Int) ≤ dyE F1 e1 by omega) heb hK0
  have hY := opd_start (n := n2) V2.out R2.out hf2 (show -(e : Int) ≤ dyE F2 e2 by omega) heb hK0
  have hK1 : K0 ≤ 2300 := by omega
  clear hK0 hKK
  obtain ⟨e0, he0⟩ : ∃ e0 : Int, e0 = -(e : Int) := ⟨_, rfl⟩
  rw [← he0] at hX hY
  have RX := rep_vA (p := Z) (n := n1) (e := e0) R1.out (by omega)
  have RY := rep_vA (p := Z) (n := n2) (e := e0) R2.out (by omega)
  obtain ⟨UX, hUX⟩ : ∃ UX, UX = vA F1 n1 (wv xs1) e1 e0 := ⟨_, rfl⟩
  obtain ⟨UY, hUY⟩ : ∃ UY, UY = vA F2 n2 (wv xs2) e2 e0 := ⟨_, rfl⟩
  rw [← hUX] at hX RX
  rw [← hUY] at hY RY
  have OOX := Lib.hid hX
  have OOY := Lib.hid hY
  have REX := Lib.hid RX
  have REY := Lib.hid RY
  have HE0 := Lib.hid he0
  have HEB := Lib.hid heb
  have HZ4 := Lib.hid hZ4
  have HRX := HR1
  have HRY := HR2
  clear hp1 hp2 hd1 hd2 he heb hX hY he0 RX RY hUX hUY hZ4 HR1 HR2 V1 V2 hf1 hf2
  clear c10 c11 c12 c13 c14 c15 c20 c21 c22 c23 c24 c25
  obtain ⟨-, ⟨c10, c11, c12, c13, c14, c15⟩, ⟨c20, c21, c22, c23, c24, c25⟩⟩ := ksR2 HRX.out HRY.out (Below.refl _ _)
  have HC := Lib.hid (addStep Z e (K0 + 0) P1 M1 F1 P2 M2 F2 n1 n2 v1 v2 e1 e2 e0 UX UY xs1 xs2 w4 HE0.out HEB.out (OOX.out.mono (by omega)) (OOY.out.mono (by omega)) (by have := HZ4.out; omega) hZ1 (by omega) T0.out)
  obtain ⟨US, hUS⟩ : ∃ U, U = rV Z 0 (UX + UY) := ⟨_, rfl⟩
  rw [← hUS] at HC
  have HUS := Lib.hid hUS
  clear hUS
  go_wp2_with fail
  refine HC.out.mono ?_
  rintro _ wS ⟨z, A, rfl, hz, hb1⟩
  obtain ⟨fS, nS, vS, ES, zsS, rfl, hR⟩ := hz
  have hSzS := hR.1.isS
  obtain ⟨Y, hY⟩ : ∃ Y, Y = wS.alloc (.cells #[.int .u64 (Z : Int), .int .i64 0, .int .i64 (fS : Int), .bool nS, vS, .int .i64 ES] 39) := ⟨_, rfl⟩
  have hbY : Below wS.heap.size wS Y := by rw [hY]; exact fbone _
  have hrz : Y.heap[wS.heap.size]? = some (.cells #[.int .u64 (Z : Int), .int .i64 0, .int .i64 (fS : Int), .bool nS, vS, .int .i64 ES] 39 (0, 0)) := by rw [hY]; exact row_chain11
  have hbX := bthen hb1 hbY
  have HRX := Lib.hid (keep_row hbX HRX.out)
  have OOX := Lib.hid (OOX.out.below hbX)
  have HRY := Lib.hid (keep_row hbX HRY.out)
  have OOY := Lib.hid (OOY.out.below hbX)
  have HRS := Lib.hid hrz
  have OOS := Lib.hid (hR.below hbY)
  have HW := Lib.hid (HW.out.trans (hbX.mono hWs))
  have T0 := Lib.hid (T0.out.below hbX)
  have hWs := HW.out.size
  clear hb1 hbY hrz hbX hR HC c10 c11 c12 c13 c14 c15 c20 c21 c22 c23 c24 c25
  go_upto_region 7 with fail
  rw [← hY]
  clear hY
  obtain ⟨YS, hYY⟩ : ∃ Q, Q = Y := ⟨_, rfl⟩
  obtain rfl := hYY
  obtain ⟨-, ⟨c10, c11, c12, c13, c14, c15⟩, ⟨c20, c21, c22, c23, c24, c25⟩⟩ := ksR2 HRS.out HRX.out (Below.refl _ _)
  have HC := Lib.hid (subStep Z e (K0 + 2) Z 0 fS P1 M1 F1 nS n1 vS v1 ES e1 e0 US UX zsS xs1 YS HE0.out HEB.out (OOS.out.mono (by omega)) (OOX.out.mono (by omega)) (by have := HZ4.out; omega) hZ1 (by omega) T0.out)
  obtain ⟨UB, hUB⟩ : ∃ U, U = rV Z 0 (US - UX) := ⟨_, rfl⟩
  rw [← hUB] at HC
  have HUB := Lib.hid hUB
  clear hUB
  go_wp2_with fail
  refine HC.out.mono ?_
  rintro _ wB ⟨z, A, rfl, hz, hb1⟩
  obtain ⟨fB, nB, vB, EB, zsB, rfl, hR⟩ := hz
  have hSzB := hR.1.isS
  obtain ⟨Y, hY⟩ : ∃ Y, Y = wB.alloc (.cells #[.int .u64 (Z : Int), .int .i64 0, .int .i64 (fB : Int), .bool nB, vB, .int .i64 EB] 39) := ⟨_, rfl⟩
  have hbY : Below wB.heap.size wB Y := by rw [hY]; exact fbone _
  have hrz : Y.heap[wB.heap.size]? = some (.cells #[.int .u64 (Z : Int), .int .i64 0, .int .i64 (fB : Int), .bool nB, vB, .int .i64 EB] 39 (0, 0)) := by rw [hY]; exact row_chain11
  have hbX := bthen hb1 hbY
  have HRX := Lib.hid (keep_row hbX HRX.out)
  have OOX := Lib.hid (OOX.out.below hbX)
  have HRY := Lib.hid (keep_row hbX HRY.out)
  have OOY := Lib.hid (OOY.out.below hbX)
  have HRS := Lib.hid (keep_row hbX HRS.out)
  have OOS := Lib.hid (OOS.out.below hbX)
  have HRB := Lib.hid hrz
  have OOB := Lib.hid (hR.below hbY)
  have HW := Lib.hid (HW.out.trans (hbX.mono hWs))
  have T0 := Lib.hid (T0.out.below hbX)
  have hWs := HW.out.size
  clear hb1 hbY hrz hbX hR HC c10 c11 c12 c13 c14 c15 c20 c21 c22 c23 c24 c25
  go_upto_region 8 with fail
  rw [← hY]
  clear hY
  obtain ⟨YB, hYY⟩ : ∃ Q, Q = Y := ⟨_, rfl⟩
  obtain rfl := hYY
  obtain ⟨-, ⟨c10, c11, c12, c13, c14, c15⟩, ⟨c20, c21, c22, c23, c24, c25⟩⟩ := ksR2 HRS.out HRB.out (Below.refl _ _)
  have HC := Lib.hid (subStep Z e (K0 + 4) Z 0 fS Z 0 fB nS nB vS vB ES EB e0 US UB zsS zsB YB HE0.out HEB.out (OOS.out.mono (by omega)) (OOB.out.mono (by omega)) (by have := HZ4.out; omega) hZ1 (by omega) T0.out)
  obtain ⟨UA, hUA⟩ : ∃ U, U = rV Z 0 (US - UB) := ⟨_, rfl⟩
  rw [← hUA] at HC
  have HUA := Lib.hid hUA
  clear hUA
  go_wp2_with fail
  refine HC.out.mono ?_
  rintro _ wA ⟨z, A, rfl, hz, hb1⟩
  obtain ⟨fA, nA, vA, EA, zsA, rfl, hR⟩ := hz
  have hSzA := hR.1.isS
  obtain ⟨Y, hY⟩ : ∃ Y, Y = wA.alloc (.cells #[.int .u64 (Z : Int), .int .i64 0, .int .i64 (fA : Int), .bool nA, vA, .int .i64 EA] 39) := ⟨_, rfl⟩
  have hbY : Below wA.heap.size wA Y := by rw [hY]; exact fbone _
  have hrz : Y.heap[wA.heap.size]? = some (.cells #[.int .u64 (Z : Int), .int .i64 0, .int .i64 (fA : Int), .bool nA, vA, .int .i64 EA] 39 (0, 0)) := by rw [hY]; exact row_chain11
  have hbX := bthen hb1 hbY
  have HRX := Lib.hid (keep_row hbX HRX.out)
  have OOX := Lib.hid (OOX.out.below hbX)
  have HRY := Lib.hid (keep_row hbX HRY.out)
  have OOY := Lib.hid (OOY.out.below hbX)
  have HRS := Lib.hid (keep_row hbX HRS.out)
  have OOS := Lib.hid (OOS.out.below hbX)
  have HRB := Lib.hid (keep_row hbX HRB.out)
  have OOB := Lib.hid (OOB.out.below hbX)
  have HRA := Lib.hid hrz
  have OOA := Lib.hid (hR.below hbY)
  have HW := Lib.hid (HW.out.trans (hbX.mono hWs))
  have T0 := Lib.hid (T0.out.below hbX)
  have hWs := HW.out.size
  clear hb1 hbY hrz hbX hR HC c10 c11 c12 c13 c14 c15 c20 c21 c22 c23 c24 c25
  go_upto_region 9 with fail
  rw [← hY]
  clear hY
  obtain ⟨YA, hYY⟩ : ∃ Q, Q = Y := ⟨_, rfl⟩
  obtain rfl := hYY
  obtain ⟨-, ⟨c10, c11, c12, c13, c14, c15⟩, ⟨c20, c21, c22, c23, c24, c25⟩⟩ := ksR2 HRY.out HRB.out (Below.refl _ _)
  have HC := Lib.hid (subStep Z e (K0 + 4) P2 M2 F2 Z 0 fB n2 nB v2 vB e2 EB e0 UY UB xs2 zsB YA HE0.out HEB.out (OOY.out.mono (by omega)) (OOB.out.mono (by omega)) (by have := HZ4.out; omega) hZ1 (by omega) T0.out)
  obtain ⟨UD, hUD⟩ : ∃ U, U = rV Z 0 (UY - UB) := ⟨_, rfl⟩
  rw [← hUD] at HC
  have HUD := Lib.hid hUD
  clear hUD
  go_wp2_with fail
  refine HC.out.mono ?_
  rintro _ wD ⟨z, A, rfl, hz, hb1⟩
  obtain ⟨fD, nD, vD, ED, zsD, rfl, hR⟩ := hz
  have hSzD := hR.1.isS
  obtain ⟨Y, hY⟩ : ∃ Y, Y = wD.alloc (.cells #[.int .u64 (Z : Int), .int .i64 0, .int .i64 (fD : Int), .bool nD, vD, .int .i64 ED] 39) := ⟨_, rfl⟩
  have hbY : Below wD.heap.size wD Y := by rw [hY]; exact fbone _
  have hrz : Y.heap[wD.heap.size]? = some (.cells #[.int .u64 (Z : Int), .int .i64 0, .int .i64 (fD : Int), .bool nD, vD, .int .i64 ED] 39 (0, 0)) := by rw [hY]; exact row_chain11
  have hbX := bthen hb1 hbY
  have HRX := Lib.hid (keep_row hbX HRX.out)
  have OOX := Lib.hid (OOX.out.below hbX)
  have HRY := Lib.hid (keep_row hbX HRY.out)
  have OOY := Lib.hid (OOY.out.below hbX)
  have HRS := Lib.hid (keep_row hbX HRS.out)
  have OOS := Lib.hid (OOS.out.below hbX)
  have HRB := Lib.hid (keep_row hbX HRB.out)
  have OOB := Lib.hid (OOB.out.below hbX)
  have HRA := Lib.hid (keep_row hbX HRA.out)
  have OOA := Lib.hid (OOA.out.below hbX)
  have HRD := Lib.hid hrz
  have OOD := Lib.hid (hR.below hbY)
  have HW := Lib.hid (HW.out.trans (hbX.mono hWs))
  have T0 := Lib.hid (T0.out.below hbX)
  have hWs := HW.out.size
  clear hb1 hbY hrz hbX hR HC c10 c11 c12 c13 c14 c15 c20 c21 c22 c23 c24 c25
  go_upto_region 10 with fail
  rw [← hY]
  clear hY
  obtain ⟨YD, hYY⟩ : ∃ Q, Q = Y := ⟨_, rfl⟩
  obtain rfl := hYY
  obtain ⟨-, ⟨c10, c11, c12, c13, c14, c15⟩, ⟨c20, c21, c22, c23, c24, c25⟩⟩ := ksR2 HRX.out HRA.out (Below.refl _ _)
  have HC := Lib.hid (subStep Z e (K0 + 6) P1 M1 F1 Z 0 fA n1 nA v1 vA e1 EA e0 UX UA xs1 zsA YD HE0.out HEB.out (OOX.out.mono (by omega)) (OOA.out.mono (by omega)) (by have := HZ4.out; omega) hZ1 (by omega) T0.out)
  obtain ⟨UC, hUC⟩ : ∃ U, U = rV Z 0 (UX - UA) := ⟨_, rfl⟩
  rw [← hUC] at HC
  have HUC := Lib.hid hUC
  clear hUC
  go_wp2_with fail
  refine HC.out.mono ?_
  rintro _ wC ⟨z, A, rfl, hz, hb1⟩
  obtain ⟨fC, nC, vC, EC, zsC, rfl, hR⟩ := hz
  have hSzC := hR.1.isS
  obtain ⟨Y, hY⟩ : ∃ Y, Y = wC.alloc (.cells #[.int .u64 (Z : Int), .int .i64 0, .int .i64 (fC : Int), .bool nC, vC, .int .i64 EC] 39) := ⟨_, rfl⟩
  have hbY : Below wC.heap.size wC Y := by rw [hY]; exact fbone _
  have hrz : Y.heap[wC.heap.size]? = some (.cells #[.int .u64 (Z : Int), .int .i64 0, .int .i64 (fC : Int), .bool nC, vC, .int .i64 EC] 39 (0, 0)) := by rw [hY]; exact row_chain11
  have hbX := bthen hb1 hbY
  have HRX := Lib.hid (keep_row hbX HRX.out)
  have OOX := Lib.hid (OOX.out.below hbX)
  have HRY := Lib.hid (keep_row hbX HRY.out)
  have OOY := Lib.hid (OOY.out.below hbX)
  have HRS := Lib.hid (keep_row hbX HRS.out)
  have OOS := Lib.hid (OOS.out.below hbX)
  have HRB := Lib.hid (keep_row hbX HRB.out)
  have OOB := Lib.hid (OOB.out.below hbX)
  have HRA := Lib.hid (keep_row hbX HRA.out)
  have OOA := Lib.hid (OOA.out.below hbX)
  have HRD := Lib.hid (keep_row hbX HRD.out)
  have OOD := Lib.hid (OOD.out.below hbX)
  have HRC := Lib.hid hrz
  have OOC := Lib.hid (hR.below hbY)
  have HW := Lib.hid (HW.out.trans (hbX.mono hWs))
  have T0 := Lib.hid (T0.out.below hbX)
  have hWs := HW.out.size
  clear hb1 hbY hrz hbX hR HC c10 c11 c12 c13 c14 c15 c20 c21 c22 c23 c24 c25
  go_upto_region 11 with fail
  rw [← hY]
  clear hY
  obtain ⟨YC, hYY⟩ : ∃ Q, Q = Y := ⟨_, rfl⟩
  obtain rfl := hYY
  obtain ⟨-, ⟨c10, c11, c12, c13, c14, c15⟩, ⟨c20, c21, c22, c23, c24, c25⟩⟩ := ksR2 HRC.out HRD.out (Below.refl _ _)
  have HC := Lib.hid (addStep Z e (K0 + 8) Z 0 fC Z 0 fD nC nD vC vD EC ED e0 UC UD zsC zsD YC HE0.out HEB.out (OOC.out.mono (by omega)) (OOD.out.mono (by omega)) (by have := HZ4.out; omega) hZ1 (by omega) T0.out)
  obtain ⟨UE, hUE⟩ : ∃ U, U = rV Z 0 (UC + UD) := ⟨_, rfl⟩
  rw [← hUE] at HC
  have HUE := Lib.hid hUE
  clear hUE
  go_wp2_with fail
  refine HC.out.mono ?_
  rintro _ wE ⟨z, A, rfl, hz, hb1⟩
  obtain ⟨fE, nE, vE, EE, zsE, rfl, hR⟩ := hz
  have hSzE := hR.1.isS
  obtain ⟨Y, hY⟩ : ∃ Y, Y = wE.alloc (.cells #[.int .u64 (Z : Int), .int .i64 0, .int .i64 (fE : Int), .bool nE, vE, .int .i64 EE] 39) := ⟨_, rfl⟩
  have hbY : Below wE.heap.size wE Y := by rw [hY]; exact fbone _
  have hrz : Y.heap[wE.heap.size]? = some (.cells #[.int .u64 (Z : Int), .int .i64 0, .int .i64 (fE : Int), .bool nE, vE, .int .i64 EE] 39 (0, 0)) := by rw [hY]; exact row_chain11
  have hbX := bthen hb1 hbY
  have HRX := Lib.hid (keep_row hbX HRX.out)
  have OOX := Lib.hid (OOX.out.below hbX)
  have HRY := Lib.hid (keep_row hbX HRY.out)
  have OOY := Lib.hid (OOY.out.below hbX)
  have HRS := Lib.hid (keep_row hbX HRS.out)
  have OOS := Lib.hid (OOS.out.below hbX)
  have HRB := Lib.hid (keep_row hbX HRB.out)
  have OOB := Lib.hid (OOB.out.below hbX)
  have HRA := Lib.hid (keep_row hbX HRA.out)
  have OOA := Lib.hid (OOA.out.below hbX)
  have HRD := Lib.hid (keep_row hbX HRD.out)
  have OOD := Lib.hid (OOD.out.below hbX)
  have HRC := Lib.hid (keep_row hbX HRC.out)
  have OOC := Lib.hid (OOC.out.below hbX)
  have HRE := Lib.hid hrz
  have OOE := Lib.hid (hR.below hbY)
  have HW := Lib.hid (HW.out.trans (hbX.mono hWs))
  have T0 := Lib.hid (T0.out.below hbX)
  have hWs := HW.out.size
  clear hb1 hbY hrz hbX hR HC c10 c11 c12 c13 c14 c15 c20 c21 c22 c23 c24 c25
  go_upto_region 12 with fail
  rw [← hY]
  clear hY
  obtain ⟨YE, hYY⟩ : ∃ Q, Q = Y := ⟨_, rfl⟩
  obtain rfl := hYY
  have HSUM : Hid (US + UE = UX + UY) := Lib.hid (two_sum HZ4.out REX.out REY.out HUS.out HUB.out HUA.out HUD.out HUC.out HUE.out)
  obtain ⟨sx1, sx2, sx3, sx4, sx5, sx6⟩ := OOS.out
  obtain ⟨ex1, ex2, ex3, ex4, ex5, ex6⟩ := OOE.out
  obtain ⟨xx1, xx2, xx3, xx4, xx5, xx6⟩ := OOX.out
  obtain ⟨yx1, yx2, yx3, yx4, yx5, yx6⟩ := OOY.out
  have he00 : e0 ≤ 0 := by have := HE0.out; omega
  have LSE := Lib.hid (min_low sx4 ex4 he00)
  have LXY := Lib.hid (min_low xx4 yx4 he00)
  have VSE := Lib.hid (smV_at sx5 ex5 LSE.out).1
  have VXY := Lib.hid (smV_at xx5 yx5 LXY.out).1
  have DS := dy_bd sx2
  have DE := dy_bd ex2
  have DX := dy_bd xx2
  have DY := dy_bd yx2
  have HBD : Hid ((bl (dyM fS (wv zsS)) ≤ 1000000 ∧ bl (dyM fE (wv zsE)) ≤ 1000000 ∧ (-1000000 ≤ dyE fS ES ∧ dyE fS ES ≤ 1000000) ∧ (-1000000 ≤ dyE fE EE ∧ dyE fE EE ≤ 1000000)) ∧ (bl (dyM F1 (wv xs1)) ≤ 1000000 ∧ bl (dyM F2 (wv xs2)) ≤ 1000000 ∧ (-1000000 ≤ dyE F1 e1 ∧ dyE F1 e1 ≤ 1000000) ∧ (-1000000 ≤ dyE F2 e2 ∧ dyE F2 e2 ≤ 1000000))) := Lib.hid (by omega)
  have HBV : Hid (bl (smV (dyN fS nS) (dyM fS (wv zsS)) (dyE fS ES) (dyN fE nE) (dyM fE (wv zsE)) (dyE fE EE)).natAbs ≤ 10000 ∧ bl (smV (dyN F1 n1) (dyM F1 (wv xs1)) (dyE F1 e1) (dyN F2 n2) (dyM F2 (wv xs2)) (dyE F2 e2)).natAbs ≤ 10000) := Lib.hid (by
    have k1 := smV_bl (dyN fS nS) (dyM fS (wv zsS)) (dyE fS ES) (dyN fE nE) (dyM fE (wv zsE)) (dyE fE EE)
    have k2 := smV_bl (dyN F1 n1) (dyM F1 (wv xs1)) (dyE F1 e1) (dyN F2 n2) (dyM F2 (wv xs2)) (dyE F2 e2)
    omega)
  have HMM : Hid ((-1000000 ≤ min (dyE fS ES) (dyE fE EE) ∧ min (dyE fS ES) (dyE fE EE) ≤ 1000000) ∧ (-1000000 ≤ min (dyE F1 e1) (dyE F2 e2) ∧ min (dyE F1 e1) (dyE F2 e2) ≤ 1000000)) := Lib.hid (by omega)
  have tS : ((fS : Int) == 2) = false := by rw [beq_eq_false_iff_ne]; omega
  have tE : ((fE : Int) == 2) = false := by rw [beq_eq_false_iff_ne]; omega
  have HSx := Lib.hid sx1
  have HEx := Lib.hid ex1
  have HXx := Lib.hid xx1
  have HYx := Lib.hid yx1
  have KS := Lib.hid sx2
  have KE := Lib.hid ex2
  have KX := Lib.hid xx2
  have KY := Lib.hid yx2
  clear sx1 sx2 sx3 sx4 sx5 sx6 ex1 ex2 ex3 ex4 ex5 ex6 xx1 xx2 xx3 xx4 xx5 xx6 yx1 yx2 yx3 yx4 yx5 yx6 DS DE DX DY he00
  clear HRB HRA HRD HRC OOB OOA OOD OOC OOS OOE OOX OOY HUS HUB HUA HUD HUC HUE
  obtain ⟨-, ⟨⟨c10, c11, c12, c13, c14, c15⟩, ⟨c20, c21, c22, c23, c24, c25⟩⟩, ⟨d10, d11, d12, d13, d14, d15⟩, ⟨d20, d21, d22, d23, d24, d25⟩⟩ := ksR4 HRS.out HRE.out HRX.out HRY.out (Below.refl _ _)
  have hcc := Below.refl YE.heap.size YE
  go_upto_region 14 with fail
  clear c10 c11 c12 c13 c14 c15 c20 c21 c22 c23 c24 c25 d10 d11 d12 d13 d14 d15 d20 d21 d22 d23 d24 d25
  first
    | (go_region_held3 (fun w' => Below YE.heap.size YE w' ∧ ((w'.cell? ⟨wS.heap.size, 0, none⟩ = some (.int .u64 (Z : Int)) ∧ w'.cell? ⟨wS.heap.size, 1, none⟩ = some (.int .i64 0) ∧ w'.cell? ⟨wS.heap.size, 2, none⟩ = some (.int .i64 (fS : Int)) ∧ w'.cell? ⟨wS.heap.size, 3, none⟩ = some (.bool nS) ∧ w'.cell? ⟨wS.heap.size, 4, none⟩ = some (vS) ∧ w'.cell? ⟨wS.heap.size, 5, none⟩ = some (.int .i64 ES)) ∧ (w'.cell? ⟨wE.heap.size, 0, none⟩ = some (.int .u64 (Z : Int)) ∧ w'.cell? ⟨wE.heap.size, 1, none⟩ = some (.int .i64 0) ∧ w'.cell? ⟨wE.heap.size, 2, none⟩ = some (.int .i64 (fE : Int)) ∧ w'.cell? ⟨wE.heap.size, 3, none⟩ = some (.bool nE) ∧ w'.cell? ⟨wE.heap.size, 4, none⟩ = some (vE) ∧ w'.cell? ⟨wE.heap.size, 5, none⟩ = some (.int .i64 EE))) ∧ (w'.cell? ⟨w.heap.size, 0, none⟩ = some (.int .u64 (P1 : Int)) ∧ w'.cell? ⟨w.heap.size, 1, none⟩ = some (.int .i64 (M1 : Int)) ∧ w'.cell? ⟨w.heap.size, 2, none⟩ = some (.int .i64 (F1 : Int)) ∧ w'.cell? ⟨w.heap.size, 3, none⟩ = some (.bool n1) ∧ w'.cell? ⟨w.heap.size, 4, none⟩ = some (v1) ∧ w'.cell? ⟨w.heap.size, 5, none⟩ = some (.int .i64 e1)) ∧ (w'.cell? ⟨w.heap.size + 1, 0, none⟩ = some (.int .u64 (P2 : Int)) ∧ w'.cell? ⟨w.heap.size + 1, 1, none⟩ = some (.int .i64 (M2 : Int)) ∧ w'.cell? ⟨w.heap.size + 1, 2, none⟩ = some (.int .i64 (F2 : Int)) ∧ w'.cell? ⟨w.heap.size + 1, 3, none⟩ = some (.bool n2) ∧ w'.cell? ⟨w.heap.size + 1, 4, none⟩ = some (v2) ∧ w'.cell? ⟨w.heap.size + 1, 5, none⟩ = some (.int .i64 e2)))
        ((refine ksR4 HRS.out HRE.out HRX.out HRY.out ?_; with_reducible first | assumption | exact Below.drew hcc))
        (first
          | (go_at_call 23; (with_reducible refine (ofReal_any 300 4000 P2 M2 F2 e2 n2 v2 xs2 _ (HYx.out.below hb11) KY.out).mono ?_); rintro _ w12 ⟨_, rfl, ⟨g, rfl, hd⟩, hb12⟩; have hTg := hd.isS; have D3 := Lib.hid (D3.out.below hb12); have D4 := Lib.hid (D4.out.below hb12); have D5 := Lib.hid hd; have hb12 := bthen hb11 hb12; clear hd)
          | (go_at_call 23; (with_reducible refine (ofReal_any 300 4000 P1 M1 F1 e1 n1 v1 xs1 _ (HXx.out.below hb10) KX.out).mono ?_); rintro _ w11 ⟨_, rfl, ⟨d, rfl, hd⟩, hb11⟩; have hTd := hd.isS; have D3 := Lib.hid (D3.out.below hb11); have D4 := Lib.hid hd; have hb11 := bthen hb10 hb11; clear hd)
          | (go_at_call 23; (with_reducible refine (ofReal0 300 4000 Z fE EE nE vE zsE _ (HEx.out.below hb8) KE.out).mono ?_); rintro _ w9 ⟨_, rfl, ⟨b, rfl, hd⟩, hb9⟩; have hTb := hd.isS; have D1 := Lib.hid (D1.out.below hb9); have D2 := Lib.hid hd; have hb9 := bthen hb8 hb9; clear hd)
          | (go_at_call 23; (with_reducible refine (ofReal0 300 4000 Z fS ES nS vS zsS _ (HSx.out.below (And.left (by assumption))) KS.out).mono ?_); rintro _ w8 ⟨_, rfl, ⟨a, rfl, hd⟩, hb8⟩; have hTa := hd.isS; have hb8 := bthenL hb8 (by assumption); have D1 := Lib.hid hd; clear hd)
          | (go_at_call 26; (with_reducible refine (dSum_sm _ _ d g _ _ _ _ _ D4.out D5.out HBD.out.2.1 HBD.out.2.2.1 HBD.out.2.2.2.1 HBD.out.2.2.2.2).mono ?_); rintro _ w13 ⟨nh, h, Mh, rfl, hc, hs, hb13⟩; have hTh := hc.isS; have D3 := Lib.hid (D3.out.below hb13); have D6 := Lib.hid hc; have HSV2 := Lib.hid hs; have hb13 := bthen hb12 hb13; clear hc hs)
          | (go_at_call 26; (with_reducible refine (dSum_sm _ _ a b _ _ _ _ _ D1.out D2.out HBD.out.1.1 HBD.out.1.2.1 HBD.out.1.2.2.1 HBD.out.1.2.2.2).mono ?_); rintro _ w10 ⟨ng, c, Mc, rfl, hc, hs, hb10⟩; have hTc := hc.isS; have D3 := Lib.hid hc; have HSV1 := Lib.hid hs; have hb10 := bthen hb9 hb10; clear hc hs)
          | (go_at_call 25; (with_reducible refine (ordSE _ _ c h _ _ _ _ _ D3.out D6.out HSV1.out HSV2.out VSE.out VXY.out HSUM.out LSE.out LXY.out HMM.out.1 HMM.out.2 HBV.out.1 HBV.out.2).mono ?_); rintro _ w14 ⟨rfl, hb14⟩; have hb14 := bthen hb13 hb14)))
    | fail
  all_goals
    go_wp2
    go_ret
    exact ⟨rfl, HW.out.trans (hb14.mono hWs)⟩
end Go.Proofs.YtgclooabjilniaaGreatDoor
