/-
Texts of this proof, joined: FdE. No condition.
-/
import Derived.Test.YtlgnaioodnhkjaaK23
import Derived.Deep.QuietTactic
import Derived.BigQuiet
/-
Floats: Float64, Float32 of a value: the walks. No condition.
-/
namespace Go.Proofs.Ytlgnaioodnhkjaa
open Go.RowKit

@[go_sem] theorem run_neg_f64 (w : World) : (Op.unary .neg (.float .f64 0)).run Try.prog w = .ok (.float .f64 9223372036854775808) w := by
  have h : Op.negFloat .f64 0 = 9223372036854775808 := by decide
  rw [← h]; rfl
@[go_sem] theorem run_neg_f32 (w : World) : (Op.unary .neg (.float .f32 0)).run Try.prog w = .ok (.float .f32 2147483648) w := by
  have h : Op.negFloat .f32 0 = 2147483648 := by decide
  rw [← h]; rfl
@[go_sem] theorem cvInfP (w : World) : (convert 91 107 (.float .f64 9218868437227405312)).run Try.prog w = .ok (.float .f32 2139095040) w := run_convert_float_float w _ _ _ _ _ _ (by kernel_rfl) (by kernel_rfl) (by decide)
@[go_sem] theorem cvInfN (w : World) : (convert 91 107 (.float .f64 18442240474082181120)).run Try.prog w = .ok (.float .f32 4286578688) w := run_convert_float_float w _ _ _ _ _ _ (by kernel_rfl) (by kernel_rfl) (by decide)
set_option maxRecDepth 100000 in
set_option maxHeartbeats 800000 in
theorem float64_low (c p m : Nat) (a e : Int) (neg : Bool) (v : Value) (w : World) (h : FltR w c p m a 1 neg v e) (he : e < -1074) (he1 : -900000000 ≤ e) :
    Calls Try.prog 44 #[.pointer (some ⟨c, 0, none⟩)] w fun e' w' => e' = .returned (.tuple #[.float .f64 (if neg then 9223372036854775808 else 0), .int .i8 (if neg then 1 else -1)]) ∧ Below w.heap.size w w' := by
  obtain ⟨c0, c1, c2, c3', c4, c5, c6⟩ := h.cells
  have c3 : w.cell? ⟨c, 3, none⟩ = some (.int .u8 1) := c3'
  obtain ⟨x, hx⟩ : ∃ x : Int, x = e - 1 := ⟨_, rfl⟩
  have q1 : e - 1 = x := hx.symm
  have hx1 : x < -1074 - 1 := by omega
  have hx2 : -900000001 ≤ x := by omega
  have t1 : decide (x < (-1022)) = true := decide_eq_true (by omega)
  have t2 : decide (1075 + x < 0) = true := decide_eq_true (by omega)
  have HB := Lib.hid (Below.refl w.heap.size w)
  clear h c3' hx he
  cases neg
  · go_enter Try.func44, Try.ntmps44
    go_wp2_with fail
    go_quiet (fail)
    go_wp2
    go_ret2
    exact ⟨rfl, undrewN' HB.out⟩
  · go_enter Try.func44, Try.ntmps44
    go_wp2_with fail
    go_quiet (fail)
    go_wp2
    go_ret2
    exact ⟨rfl, undrewN' HB.out⟩
set_option maxRecDepth 100000 in
set_option maxHeartbeats 6400000 in
theorem float64_fin (c Bx p m : Nat) (a e : Int) (neg : Bool) (v : Value) (ws : List Nat) (w : World) (h : FltR w c p m a 1 neg v e) (ho : Own w Bx 112 v (cellsW ws)) (hg : Good ws p) (hp0 : 0 < p) (hp : p ≤ 64000000) (he : -1074 < e) (he2 : e ≤ 900000000) :
    Calls Try.prog 44 #[.pointer (some ⟨c, 0, none⟩)] w fun e' w' => e' = .returned (.tuple #[.float .f64 ((if neg then 9223372036854775808 else 0) + btV neg (wv ws) (e - 64 * (ws.length : Int)) 52 (-1074) 2047), .int .i8 (btS neg (wv ws) (e - 64 * (ws.length : Int)) 52 (-1074) 2047)]) ∧ Below w.heap.size w w' := by
  have h0 := hg.posv
  have hb := hg.bl
  have hlb := hg.2.1
  have hcl := h.lt
  obtain ⟨E, hE⟩ : ∃ E : Int, E = e - 64 * (ws.length : Int) := ⟨_, rfl⟩
  rw [← hE]
  obtain ⟨M, hM⟩ : ∃ M, M = wv ws := ⟨_, rfl⟩
  rw [← hM] at h0 hb ⊢
  have hbe : E + (bl M : Int) = e := by omega
  obtain ⟨p', Q, u, p1, p2, p3, p4, p5, hd, hQ0, hQb, hway⟩ := f64_parts (n := neg) (E := E) h0 (by omega)
  rw [hbe] at p1 p4 p5
  have hne : w.heap.size ≠ c := by omega
  have hFX : FVal w Bx c p m a 1 neg M E := ⟨v, e, h, fun _ => ⟨h0, ws, ho, hg, by rw [← hM, ← hE]; exact deq.refl _ _⟩⟩
  have HSET : Hid (∀ W, FltR W w.heap.size p' 0 0 0 false (.slice none 0 0) 0 → Below w.heap.size w W → Calls Try.prog 83 #[.pointer (some ⟨w.heap.size, 0, none⟩), .pointer (some ⟨c, 0, none⟩)] W fun e' w' => e' = .returned (.pointer (some ⟨w.heap.size, 0, none⟩)) ∧ ∃ v', IsS v' ∧ FltR w' w.heap.size p' 0 (rA p' 0 neg 0 M) 1 neg v' (u + bl Q) ∧
      (Calls Try.prog 85 #[v'] w' fun e'' w'' => e'' = .returned (.int .u64 ((Q * 2 ^ (64 - bl Q) : Nat) : Int)) ∧ w' = w'') ∧ w'.cell? ⟨c, 4, none⟩ = some (.bool neg) ∧ Below w.heap.size w w') := Lib.hid (fun W hr hW => by
    refine (set_msb64 w.heap.size w.heap.size c Bx p' p m a neg M E Q u W hr (Nat.le_refl _) (hFX.below hW) hne (by omega) (by omega) hp0 hp (by omega) hd (by omega)).mono ?_
    rintro _ w' ⟨rfl, v', k1, k2, k3, k5⟩
    refine ⟨rfl, v', k1, k2, k3, ?_, hW.trans k5⟩
    have k6 : FltR w' c p m a 1 neg v e := keep_row' k5 (h.below hW) hcl
    exact k6.cells.2.2.2.2.1)
  have hAb := rA_bd p' 0 neg 0 M
  obtain ⟨A, hA⟩ : ∃ A, A = rA p' 0 neg 0 M := ⟨_, rfl⟩
  rw [← hA] at HSET hway hAb
  obtain ⟨y, hy⟩ : ∃ y : Int, y = u + bl Q := ⟨_, rfl⟩
  rw [← hy] at HSET hway
  obtain ⟨BV, hBV⟩ : ∃ BV, BV = btV neg M E 52 (-1074) 2047 := ⟨_, rfl⟩
  obtain ⟨BS, hBS⟩ : ∃ BS, BS = btS neg M E 52 (-1074) 2047 := ⟨_, rfl⟩
  rw [← hBV, ← hBS] at hway ⊢
  obtain ⟨c0, c1, c2, c3', c4, c5, c6⟩ := h.cells
  have c3 : w.cell? ⟨c, 3, none⟩ = some (.int .u8 1) := c3'
  obtain ⟨x, hx⟩ : ∃ x : Int, x = e - 1 := ⟨_, rfl⟩
  have q1 : e - 1 = x := hx.symm
  obtain ⟨z, hz⟩ : ∃ z : Int, z = y - 1 := ⟨_, rfl⟩
  have q2 : y - 1 = z := hz.symm
  have hyb : -2000 ≤ y ∧ y ≤ 900000100 := by omega
  obtain ⟨b, hbq⟩ : ∃ b, b = bl Q := ⟨_, rfl⟩
  rw [← hbq] at HSET hway hQb hy
  obtain ⟨t, ht⟩ : ∃ t, t = Q * 2 ^ (64 - b) := ⟨_, rfl⟩
  rw [← ht] at HSET
  have htl : t < 18446744073709551616 := by
    have h1 := lt_bl Q
    rw [← hbq] at h1
    have h2 := Nat.mul_lt_mul_of_pos_right h1 (Nat.two_pow_pos (64 - b))
    rw [← ht, ← Nat.pow_add, show b + (64 - b) = 64 by omega] at h2
    exact h2
  have HWAY := Lib.hid hway
  have HY := Lib.hid hy
  have HQB := Lib.hid hbq
  have HTT := Lib.hid ht
  have HP3 := Lib.hid (And.intro p1 (And.intro p2 (And.intro p3 (And.intro p4 p5))))
  clear h ho hg hp0 hp hcl hE hb h0 hM hbe p1 p4 p5 hd hQ0 hne hFX hA hBV hBS c3' hx hz hlb hway hbq ht hy
  by_cases he3 : e ≤ (-1022)
  · have hpe : (p' : Int) = e + 1074 := HP3.out.2.2.2.1 (by omega) he3
    have t1 : decide (x < (-1022)) = true := decide_eq_true (by omega)
    have q3 : 1075 + x = (p' : Int) := by omega
    have t2 : decide ((p' : Int) < 0) = false := decide_eq_false (by omega)
    have t3 : ((p' : Int) == 0) = false := by rw [beq_eq_false_iff_ne]; omega
    clear he3 hpe HP3
    go_enter Try.func44, Try.ntmps44
    go_wp2_with fail
    go_quiet (fail)
    have hN : FltR ((w.drewN nq).alloc (.cells #[.int .u32 0, .int .u8 0, .int .i8 0, .int .u8 0, .bool false, .slice none 0 0, .int .i32 0] 89)) w.heap.size 0 0 0 0 false (.slice none 0 0) 0 := newF_row (w.drewN nq)
    have k0 := hN.cells.1
    have k1 := hN.free.1
    have HN := Lib.hid (hN.s0 p')
    have hbn : Below w.heap.size (w.drewN nq) ((w.drewN nq).alloc (.cells #[.int .u32 0, .int .u8 0, .int .i8 0, .int .u8 0, .bool false, .slice none 0 0, .int .i32 0] 89)) := fbone (W := w.drewN nq) _
    have HBN := Lib.hid (bset (i := 0) (u := .int .u32 (p' : Int)) (undrewN hbn) (Nat.le_refl _))
    clear hN hbn t2 t3
    go_wp2_with fail
    refine (HSET.out _ HN.out HBN.out).mono ?_
    rintro _ w2 ⟨rfl, v', hSv, hF2, hms, hng, hb2⟩
    clear k0 k1 HN HBN t1 q1 q3 HSET c0 c1 c2 c3 c4 c5 c6 
    obtain ⟨d0, d1, d2, d3', d4, d5, d6⟩ := hF2.cells
    have d3 : w2.cell? ⟨w.heap.size, 3, none⟩ = some (.int .u8 1) := d3'
    have HB2 := Lib.hid hb2
    have HMS := Lib.hid hms
    clear d3' hF2 hb2 hms
    rcases HWAY.out with ⟨y1, y2, y3, y4, y5⟩ | ⟨y1, y2, y3, y4, y6, y7, y5⟩ | ⟨y1, y4, y5⟩
    · have t4 : decide (1023 < z) = false := decide_eq_false (by omega)
      have t5 : decide (z < (-1022)) = true := decide_eq_true (by omega)
      have q4 : 1075 + z = (b : Int) := by have := HY.out; omega
      have hQp : Q < 4503599627370496 := by
        have h1 := lt_bl Q
        rw [← HQB.out] at h1
        exact Nat.lt_of_lt_of_le h1 (Nat.pow_le_pow_right (by decide) y3)
      obtain ⟨s, hs⟩ : ∃ s, s = 64 - b := ⟨_, rfl⟩
      have hs1 : s ≤ 64 := by omega
      have q5 : (64 : Int) - (b : Int) = (s : Int) := by omega
      obtain ⟨D, hD⟩ : ∃ D, D = 2 ^ s := ⟨_, rfl⟩
      have hD0 : 0 < D := by rw [hD]; exact Nat.two_pow_pos _
      have hS2 : (2 : Int) ^ s = (D : Int) := by rw [hD]; simp
      have htQ : t = Q * D := by rw [HTT.out, ← hs, ← hD]
      have hdv : (t : Int) / (D : Int) = (Q : Int) := by
        rw [htQ]
        have := Nat.mul_div_cancel Q hD0
        omega
      have HBV : Hid (BV = Q ∧ BS = A) := Lib.hid ⟨y4, y5⟩
      clear y1 y2 y3 y4 y5 hs hD HTT HQB htQ HWAY
      cases neg
      · have o1 : bits .or .u64 0 0 = 0 := by decide
        have o2 : bits .or .u64 0 (Q : Int) = (Q : Int) := by
          have := (f64_or (S := 0) (g := 0) (m := Q) (.inl rfl) (by decide) hQp).2
          simpa using this
        go_wp2_with fail
        refine HMS.out.mono ?_
        rintro _ _ ⟨rfl, rfl⟩
        go_wp2_with fail
        go_quiet (fail)
        go_wp2
        go_ret2
        rw [HBV.out.1, HBV.out.2]
        refine ⟨?_, undrewN' HB2.out⟩
        simp
      · have o1 : bits .or .u64 9223372036854775808 0 = 9223372036854775808 := by decide
        have o2 : bits .or .u64 9223372036854775808 (Q : Int) = ((9223372036854775808 + Q : Nat) : Int) := by
          have := (f64_or (S := 9223372036854775808) (g := 0) (m := Q) (.inr rfl) (by decide) hQp).2
          simpa using this
        obtain ⟨R, hR⟩ : ∃ R, R = 9223372036854775808 + Q := ⟨_, rfl⟩
        rw [← hR] at o2
        have HR := Lib.hid hR
        clear hR
        go_wp2_with fail
        refine HMS.out.mono ?_
        rintro _ _ ⟨rfl, rfl⟩
        go_wp2_with fail
        go_quiet (fail)
        go_wp2
        go_ret2
        rw [HBV.out.1, HBV.out.2]
        refine ⟨?_, undrewN' HB2.out⟩
        simp [HR.out]
    · have t4 : decide (1023 < z) = false := decide_eq_false (by omega)
      have t5 : decide (z < (-1022)) = false := decide_eq_false (by omega)
      obtain ⟨g, hg⟩ := Int.eq_ofNat_of_zero_le (show 0 ≤ y - (-1022) by omega)
      have q4 : z + 1023 = (g : Int) := by omega
      have hgb : g < 2048 := by omega
      obtain ⟨G, hG⟩ : ∃ G, G = g * 4503599627370496 := ⟨_, rfl⟩
      have hGb : G < 18446744073709551616 := by omega
      have hsh : IntKind.u64.wrap ((g : Int) * 4503599627370496) = (G : Int) := by rw [IntKind.wrap_u64]; omega
      have hsh2 : (g : Int) * 4503599627370496 = (G : Int) := by omega
      have hQr : t / 2048 % 4503599627370496 = if b = 53 then Q - 4503599627370496 else 0 := by
        rcases (by omega : b = 53 ∨ b = 54) with hb | hb
        · have h1 := y6 hb
          rw [if_pos hb, HTT.out, hb, show (2 : Nat) ^ (64 - 53) = 2048 from rfl, Nat.mul_div_cancel _ (by decide)]
          omega
        · rw [if_neg (by omega), HTT.out, hb, y7 hb]
      obtain ⟨m, hm⟩ : ∃ m, m = if b = 53 then Q - 4503599627370496 else 0 := ⟨_, rfl⟩
      have hmb : m < 4503599627370496 := by
        rw [hm]
        split
        · rename_i hb; have := y6 hb; omega
        · decide
      rw [← hm] at hQr y4
      have y8 : BV = G + m := by rw [y4, hG, show (y - (-1022)).toNat = g by omega]
      obtain ⟨t2, ht2⟩ : ∃ t2, t2 = t / 2048 := ⟨_, rfl⟩
      have htd : (t : Int) / 2048 = (t2 : Int) := by omega
      have hma : bits .and .u64 (t2 : Int) 4503599627370495 = (m : Int) := by
        rw [← hQr, ← ht2, show (4503599627370495 : Int) = ((4503599627370495 : Nat) : Int) from rfl, u64_and_nat t2 _ (by omega) (by decide), show (4503599627370495 : Nat) = 2 ^ 52 - 1 from rfl, Nat.and_two_pow_sub_one_eq_mod]
      have HBV : Hid (BV = G + m ∧ BS = A) := Lib.hid ⟨y8, y5⟩
      have hor := fun S hS => f64_or (S := S) (g := g) (m := m) hS hgb hmb
      rw [← hG] at hor
      clear y1 y2 y3 y4 y5 y6 y7 y8 hg hG hQr hm ht2 HTT HQB HWAY
      cases neg
      · have o1 : bits .or .u64 0 (G : Int) = (G : Int) := by
          have := (hor 0 (.inl rfl)).1
          simpa using this
        have o2 : bits .or .u64 (G : Int) (m : Int) = ((G + m : Nat) : Int) := by
          have := (hor 0 (.inl rfl)).2
          rw [Nat.zero_add] at this
          exact this
        obtain ⟨R, hR⟩ : ∃ R, R = G + m := ⟨_, rfl⟩
        rw [← hR] at o2 HBV
        clear hR hor
        go_wp2_with fail
        refine HMS.out.mono ?_
        rintro _ _ ⟨rfl, rfl⟩
        go_wp2_with fail
        go_quiet (fail)
        go_wp2
        go_ret2
        rw [HBV.out.1, HBV.out.2]
        refine ⟨?_, undrewN' HB2.out⟩
        simp
      · have o1 : bits .or .u64 9223372036854775808 (G : Int) = ((9223372036854775808 + G : Nat) : Int) := (hor 9223372036854775808 (.inr rfl)).1
        have o2 : bits .or .u64 ((9223372036854775808 + G : Nat) : Int) (m : Int) = ((9223372036854775808 + G + m : Nat) : Int) := (hor 9223372036854775808 (.inr rfl)).2
        obtain ⟨R, hR⟩ : ∃ R, R = 9223372036854775808 + G + m := ⟨_, rfl⟩
        rw [← hR] at o2
        obtain ⟨H, hH⟩ : ∃ H, H = 9223372036854775808 + G := ⟨_, rfl⟩
        rw [← hH] at o1 o2
        have HR : Hid (9223372036854775808 + (G + m) = R) := Lib.hid (by omega)
        clear hR hH hor
        go_wp2_with fail
        refine HMS.out.mono ?_
        rintro _ _ ⟨rfl, rfl⟩
        go_wp2_with fail
        go_quiet (fail)
        go_wp2
        go_ret2
        rw [HBV.out.1, HBV.out.2]
        refine ⟨?_, undrewN' HB2.out⟩
        simp [HR.out]
    · have t4 : decide (1023 < z) = true := decide_eq_true (by omega)
      have HBV : Hid (BV = 9218868437227405312 ∧ BS = if neg then -1 else 1) := Lib.hid ⟨y4, y5⟩
      clear y1 y4 y5 HTT HQB HWAY HMS
      cases neg
      · go_wp2_with fail
        refine (mInfP _).mono ?_
        rintro _ _ ⟨rfl, rfl⟩
        go_wp2
        go_ret2
        rw [HBV.out.1, HBV.out.2]
        exact ⟨rfl, HB2.out⟩
      · go_wp2_with fail
        refine (mInfN _).mono ?_
        rintro _ _ ⟨rfl, rfl⟩
        go_wp2
        go_ret2
        rw [HBV.out.1, HBV.out.2]
        exact ⟨rfl, HB2.out⟩
  · have hpe : p' = 53 := HP3.out.2.2.2.2 (by omega)
    have t1 : decide (x < (-1022)) = false := decide_eq_false (by omega)
    subst hpe
    have HN : Hid (FltR (w.alloc (.cells #[.int .u32 53, .int .u8 0, .int .i8 0, .int .u8 0, .bool false, .slice none 0 0, .int .i32 0] 89)) w.heap.size 53 0 0 0 false (.slice none 0 0) 0) := Lib.hid (box_row (Below.refl _ _))
    clear he3 HP3
    go_enter Try.func44, Try.ntmps44
    go_wp2_with fail
    refine (HSET.out _ HN.out (fbone _)).mono ?_
    rintro _ w2 ⟨rfl, v', hSv, hF2, hms, hng, hb2⟩
    clear HN t1 q1 HSET c0 c1 c2 c3 c4 c5 c6 
    obtain ⟨d0, d1, d2, d3', d4, d5, d6⟩ := hF2.cells
    have d3 : w2.cell? ⟨w.heap.size, 3, none⟩ = some (.int .u8 1) := d3'
    have HB2 := Lib.hid hb2
    have HMS := Lib.hid hms
    clear d3' hF2 hb2 hms
    rcases HWAY.out with ⟨y1, y2, y3, y4, y5⟩ | ⟨y1, y2, y3, y4, y6, y7, y5⟩ | ⟨y1, y4, y5⟩
    · have t4 : decide (1023 < z) = false := decide_eq_false (by omega)
      have t5 : decide (z < (-1022)) = true := decide_eq_true (by omega)
      have q4 : 1075 + z = (b : Int) := by have := HY.out; omega
      have hQp : Q < 4503599627370496 := by
        have h1 := lt_bl Q
        rw [← HQB.out] at h1
        exact Nat.lt_of_lt_of_le h1 (Nat.pow_le_pow_right (by decide) y3)
      obtain ⟨s, hs⟩ : ∃ s, s = 64 - b := ⟨_, rfl⟩
      have hs1 : s ≤ 64 := by omega
      have q5 : (64 : Int) - (b : Int) = (s : Int) := by omega
      obtain ⟨D, hD⟩ : ∃ D, D = 2 ^ s := ⟨_, rfl⟩
      have hD0 : 0 < D := by rw [hD]; exact Nat.two_pow_pos _
      have hS2 : (2 : Int) ^ s = (D : Int) := by rw [hD]; simp
      have htQ : t = Q * D := by rw [HTT.out, ← hs, ← hD]
      have hdv : (t : Int) / (D : Int) = (Q : Int) := by
        rw [htQ]
        have := Nat.mul_div_cancel Q hD0
        omega
      have HBV : Hid (BV = Q ∧ BS = A) := Lib.hid ⟨y4, y5⟩
      clear y1 y2 y3 y4 y5 hs hD HTT HQB htQ HWAY
      cases neg
      · have o1 : bits .or .u64 0 0 = 0 := by decide
        have o2 : bits .or .u64 0 (Q : Int) = (Q : Int) := by
          have := (f64_or (S := 0) (g := 0) (m := Q) (.inl rfl) (by decide) hQp).2
          simpa using this
        go_wp2_with fail
        refine HMS.out.mono ?_
        rintro _ _ ⟨rfl, rfl⟩
        go_wp2_with fail
        go_quiet (fail)
        go_wp2
        go_ret2
        rw [HBV.out.1, HBV.out.2]
        refine ⟨?_, undrewN' HB2.out⟩
        simp
      · have o1 : bits .or .u64 9223372036854775808 0 = 9223372036854775808 := by decide
        have o2 : bits .or .u64 9223372036854775808 (Q : Int) = ((9223372036854775808 + Q : Nat) : Int) := by
          have := (f64_or (S := 9223372036854775808) (g := 0) (m := Q) (.inr rfl) (by decide) hQp).2
          simpa using this
        obtain ⟨R, hR⟩ : ∃ R, R = 9223372036854775808 + Q := ⟨_, rfl⟩
        rw [← hR] at o2
        have HR := Lib.hid hR
        clear hR
        go_wp2_with fail
        refine HMS.out.mono ?_
        rintro _ _ ⟨rfl, rfl⟩
        go_wp2_with fail
        go_quiet (fail)
        go_wp2
        go_ret2
        rw [HBV.out.1, HBV.out.2]
        refine ⟨?_, undrewN' HB2.out⟩
        simp [HR.out]
    · have t4 : decide (1023 < z) = false := decide_eq_false (by omega)
      have t5 : decide (z < (-1022)) = false := decide_eq_false (by omega)
      obtain ⟨g, hg⟩ := Int.eq_ofNat_of_zero_le (show 0 ≤ y - (-1022) by omega)
      have q4 : z + 1023 = (g : Int) := by omega
      have hgb : g < 2048 := by omega
      obtain ⟨G, hG⟩ : ∃ G, G = g * 4503599627370496 := ⟨_, rfl⟩
      have hGb : G < 18446744073709551616 := by omega
      have hsh : IntKind.u64.wrap ((g : Int) * 4503599627370496) = (G : Int) := by rw [IntKind.wrap_u64]; omega
      have hsh2 : (g : Int) * 4503599627370496 = (G : Int) := by omega
      have hQr : t / 2048 % 4503599627370496 = if b = 53 then Q - 4503599627370496 else 0 := by
        rcases (by omega : b = 53 ∨ b = 54) with hb | hb
        · have h1 := y6 hb
          rw [if_pos hb, HTT.out, hb, show (2 : Nat) ^ (64 - 53) = 2048 from rfl, Nat.mul_div_cancel _ (by decide)]
          omega
        · rw [if_neg (by omega), HTT.out, hb, y7 hb]
      obtain ⟨m, hm⟩ : ∃ m, m = if b = 53 then Q - 4503599627370496 else 0 := ⟨_, rfl⟩
      have hmb : m < 4503599627370496 := by
        rw [hm]
        split
        · rename_i hb; have := y6 hb; omega
        · decide
      rw [← hm] at hQr y4
      have y8 : BV = G + m := by rw [y4, hG, show (y - (-1022)).toNat = g by omega]
      obtain ⟨t2, ht2⟩ : ∃ t2, t2 = t / 2048 := ⟨_, rfl⟩
      have htd : (t : Int) / 2048 = (t2 : Int) := by omega
      have hma : bits .and .u64 (t2 : Int) 4503599627370495 = (m : Int) := by
        rw [← hQr, ← ht2, show (4503599627370495 : Int) = ((4503599627370495 : Nat) : Int) from rfl, u64_and_nat t2 _ (by omega) (by decide), show (4503599627370495 : Nat) = 2 ^ 52 - 1 from rfl, Nat.and_two_pow_sub_one_eq_mod]
      have HBV : Hid (BV = G + m ∧ BS = A) := Lib.hid ⟨y8, y5⟩
      have hor := fun S hS => f64_or (S := S) (g := g) (m := m) hS hgb hmb
      rw [← hG] at hor
      clear y1 y2 y3 y4 y5 y6 y7 y8 hg hG hQr hm ht2 HTT HQB HWAY
      cases neg
      · have o1 : bits .or .u64 0 (G : Int) = (G : Int) := by
          have := (hor 0 (.inl rfl)).1
          simpa using this
        have o2 : bits .or .u64 (G : Int) (m : Int) = ((G + m : Nat) : Int) := by
          have := (hor 0 (.inl rfl)).2
          rw [Nat.zero_add] at this
          exact this
        obtain ⟨R, hR⟩ : ∃ R, R = G + m := ⟨_, rfl⟩
        rw [← hR] at o2 HBV
        clear hR hor
        go_wp2_with fail
        refine HMS.out.mono ?_
        rintro _ _ ⟨rfl, rfl⟩
        go_wp2_with fail
        go_quiet (fail)
        go_wp2
        go_ret2
        rw [HBV.out.1, HBV.out.2]
        refine ⟨?_, undrewN' HB2.out⟩
        simp
      · have o1 : bits .or .u64 9223372036854775808 (G : Int) = ((9223372036854775808 + G : Nat) : Int) := (hor 9223372036854775808 (.inr rfl)).1
        have o2 : bits .or .u64 ((9223372036854775808 + G : Nat) : Int) (m : Int) = ((9223372036854775808 + G + m : Nat) : Int) := (hor 9223372036854775808 (.inr rfl)).2
        obtain ⟨R, hR⟩ : ∃ R, R = 9223372036854775808 + G + m := ⟨_, rfl⟩
        rw [← hR] at o2
        obtain ⟨H, hH⟩ : ∃ H, H = 9223372036854775808 + G := ⟨_, rfl⟩
        rw [← hH] at o1 o2
        have HR : Hid (9223372036854775808 + (G + m) = R) := Lib.hid (by omega)
        clear hR hH hor
        go_wp2_with fail
        refine HMS.out.mono ?_
        rintro _ _ ⟨rfl, rfl⟩
        go_wp2_with fail
        go_quiet (fail)
        go_wp2
        go_ret2
        rw [HBV.out.1, HBV.out.2]
        refine ⟨?_, undrewN' HB2.out⟩
        simp [HR.out]
    · have t4 : decide (1023 < z) = true := decide_eq_true (by omega)
      have HBV : Hid (BV = 9218868437227405312 ∧ BS = if neg then -1 else 1) := Lib.hid ⟨y4, y5⟩
      clear y1 y4 y5 HTT HQB HWAY HMS
      cases neg
      · go_wp2_with fail
        refine (mInfP _).mono ?_
        rintro _ _ ⟨rfl, rfl⟩
        go_wp2
        go_ret2
        rw [HBV.out.1, HBV.out.2]
        exact ⟨rfl, HB2.out⟩
      · go_wp2_with fail
        refine (mInfN _).mono ?_
        rintro _ _ ⟨rfl, rfl⟩
        go_wp2
        go_ret2
        rw [HBV.out.1, HBV.out.2]
        exact ⟨rfl, HB2.out⟩
set_option maxRecDepth 100000 in
set_option maxHeartbeats 800000 in
theorem float32_low (c p m : Nat) (a e : Int) (neg : Bool) (v : Value) (w : World) (h : FltR w c p m a 1 neg v e) (he : e < -149) (he1 : -900000000 ≤ e) :
    Calls Try.prog 56 #[.pointer (some ⟨c, 0, none⟩)] w fun e' w' => e' = .returned (.tuple #[.float .f32 (if neg then 2147483648 else 0), .int .i8 (if neg then 1 else -1)]) ∧ Below w.heap.size w w' := by
  obtain ⟨c0, c1, c2, c3', c4, c5, c6⟩ := h.cells
  have c3 : w.cell? ⟨c, 3, none⟩ = some (.int .u8 1) := c3'
  obtain ⟨x, hx⟩ : ∃ x : Int, x = e - 1 := ⟨_, rfl⟩
  have q1 : e - 1 = x := hx.symm
  have hx1 : x < -149 - 1 := by omega
  have hx2 : -900000001 ≤ x := by omega
  have t1 : decide (x < (-126)) = true := decide_eq_true (by omega)
  have t2 : decide (150 + x < 0) = true := decide_eq_true (by omega)
  have HB := Lib.hid (Below.refl w.heap.size w)
  clear h c3' hx he
  cases neg
  · go_enter Try.func56, Try.ntmps56
    go_wp2_with fail
    go_quiet (fail)
    go_wp2
    go_ret2
    exact ⟨rfl, undrewN' HB.out⟩
  · go_enter Try.func56, Try.ntmps56
    go_wp2_with fail
    go_quiet (fail)
    go_wp2
    go_ret2
    exact ⟨rfl, undrewN' HB.out⟩
set_option maxRecDepth 100000 in
set_option maxHeartbeats 6400000 in
theorem float32_fin (c Bx p m : Nat) (a e : Int) (neg : Bool) (v : Value) (ws : List Nat) (w : World) (h : FltR w c p m a 1 neg v e) (ho : Own w Bx 112 v (cellsW ws)) (hg : Good ws p) (hp0 : 0 < p) (hp : p ≤ 64000000) (he : -149 < e) (he2 : e ≤ 900000000) :
    Calls Try.prog 56 #[.pointer (some ⟨c, 0, none⟩)] w fun e' w' => e' = .returned (.tuple #[.float .f32 ((if neg then 2147483648 else 0) + btV neg (wv ws) (e - 64 * (ws.length : Int)) 23 (-149) 255), .int .i8 (btS neg (wv ws) (e - 64 * (ws.length : Int)) 23 (-149) 255)]) ∧ Below w.heap.size w w' := by
  have h0 := hg.posv
  have hb := hg.bl
  have hlb := hg.2.1
  have hcl := h.lt
  obtain ⟨E, hE⟩ : ∃ E : Int, E = e - 64 * (ws.length : Int) := ⟨_, rfl⟩
  rw [← hE]
  obtain ⟨M, hM⟩ : ∃ M, M = wv ws := ⟨_, rfl⟩
  rw [← hM] at h0 hb ⊢
  have hbe : E + (bl M : Int) = e := by omega
  obtain ⟨p', Q, u, p1, p2, p3, p4, p5, hd, hQ0, hQb, hway⟩ := f32_parts (n := neg) (E := E) h0 (by omega)
  rw [hbe] at p1 p4 p5
  have hne : w.heap.size ≠ c := by omega
  have hFX : FVal w Bx c p m a 1 neg M E := ⟨v, e, h, fun _ => ⟨h0, ws, ho, hg, by rw [← hM, ← hE]; exact deq.refl _ _⟩⟩
  have HSET : Hid (∀ W, FltR W w.heap.size p' 0 0 0 false (.slice none 0 0) 0 → Below w.heap.size w W → Calls Try.prog 83 #[.pointer (some ⟨w.heap.size, 0, none⟩), .pointer (some ⟨c, 0, none⟩)] W fun e' w' => e' = .returned (.pointer (some ⟨w.heap.size, 0, none⟩)) ∧ ∃ v', IsS v' ∧ FltR w' w.heap.size p' 0 (rA p' 0 neg 0 M) 1 neg v' (u + bl Q) ∧
      (Calls Try.prog 98 #[v'] w' fun e'' w'' => e'' = .returned (.int .u32 ((Q * 2 ^ (32 - bl Q) : Nat) : Int)) ∧ w' = w'') ∧ w'.cell? ⟨c, 4, none⟩ = some (.bool neg) ∧ Below w.heap.size w w') := Lib.hid (fun W hr hW => by
    refine (set_msb32 w.heap.size w.heap.size c Bx p' p m a neg M E Q u W hr (Nat.le_refl _) (hFX.below hW) hne (by omega) (by omega) hp0 hp (by omega) hd (by omega)).mono ?_
    rintro _ w' ⟨rfl, v', k1, k2, k3, k5⟩
    refine ⟨rfl, v', k1, k2, k3, ?_, hW.trans k5⟩
    have k6 : FltR w' c p m a 1 neg v e := keep_row' k5 (h.below hW) hcl
    exact k6.cells.2.2.2.2.1)
  have hAb := rA_bd p' 0 neg 0 M
  obtain ⟨A, hA⟩ : ∃ A, A = rA p' 0 neg 0 M := ⟨_, rfl⟩
  rw [← hA] at HSET hway hAb
  obtain ⟨y, hy⟩ : ∃ y : Int, y = u + bl Q := ⟨_, rfl⟩
  rw [← hy] at HSET hway
  obtain ⟨BV, hBV⟩ : ∃ BV, BV = btV neg M E 23 (-149) 255 := ⟨_, rfl⟩
  obtain ⟨BS, hBS⟩ : ∃ BS, BS = btS neg M E 23 (-149) 255 := ⟨_, rfl⟩
  rw [← hBV, ← hBS] at hway ⊢
  obtain ⟨c0, c1, c2, c3', c4, c5, c6⟩ := h.cells
  have c3 : w.cell? ⟨c, 3, none⟩ = some (.int .u8 1) := c3'
  obtain ⟨x, hx⟩ : ∃ x : Int, x = e - 1 := ⟨_, rfl⟩
  have q1 : e - 1 = x := hx.symm
  obtain ⟨z, hz⟩ : ∃ z : Int, z = y - 1 := ⟨_, rfl⟩
  have q2 : y - 1 = z := hz.symm
  have hyb : -2000 ≤ y ∧ y ≤ 900000100 := by omega
  obtain ⟨b, hbq⟩ : ∃ b, b = bl Q := ⟨_, rfl⟩
  rw [← hbq] at HSET hway hQb hy
  obtain ⟨t, ht⟩ : ∃ t, t = Q * 2 ^ (32 - b) := ⟨_, rfl⟩
  rw [← ht] at HSET
  have htl : t < 4294967296 := by
    have h1 := lt_bl Q
    rw [← hbq] at h1
    have h2 := Nat.mul_lt_mul_of_pos_right h1 (Nat.two_pow_pos (32 - b))
    rw [← ht, ← Nat.pow_add, show b + (32 - b) = 32 by omega] at h2
    exact h2
  have HWAY := Lib.hid hway
  have HY := Lib.hid hy
  have HQB := Lib.hid hbq
  have HTT := Lib.hid ht
  have HP3 := Lib.hid (And.intro p1 (And.intro p2 (And.intro p3 (And.intro p4 p5))))
  clear h ho hg hp0 hp hcl hE hb h0 hM hbe p1 p4 p5 hd hQ0 hne hFX hA hBV hBS c3' hx hz hlb hway hbq ht hy
  by_cases he3 : e ≤ (-126)
  · have hpe : (p' : Int) = e + 149 := HP3.out.2.2.2.1 (by omega) he3
    have t1 : decide (x < (-126)) = true := decide_eq_true (by omega)
    have q3 : 150 + x = (p' : Int) := by omega
    have t2 : decide ((p' : Int) < 0) = false := decide_eq_false (by omega)
    have t3 : ((p' : Int) == 0) = false := by rw [beq_eq_false_iff_ne]; omega
    clear he3 hpe HP3
    go_enter Try.func56, Try.ntmps56
    go_wp2_with fail
    go_quiet (fail)
    have hN : FltR ((w.drewN nq).alloc (.cells #[.int .u32 0, .int .u8 0, .int .i8 0, .int .u8 0, .bool false, .slice none 0 0, .int .i32 0] 89)) w.heap.size 0 0 0 0 false (.slice none 0 0) 0 := newF_row (w.drewN nq)
    have k0 := hN.cells.1
    have k1 := hN.free.1
    have HN := Lib.hid (hN.s0 p')
    have hbn : Below w.heap.size (w.drewN nq) ((w.drewN nq).alloc (.cells #[.int .u32 0, .int .u8 0, .int .i8 0, .int .u8 0, .bool false, .slice none 0 0, .int .i32 0] 89)) := fbone (W := w.drewN nq) _
    have HBN := Lib.hid (bset (i := 0) (u := .int .u32 (p' : Int)) (undrewN hbn) (Nat.le_refl _))
    clear hN hbn t2 t3
    go_wp2_with fail
    refine (HSET.out _ HN.out HBN.out).mono ?_
    rintro _ w2 ⟨rfl, v', hSv, hF2, hms, hng, hb2⟩
    clear k0 k1 HN HBN t1 q1 q3 HSET c0 c1 c2 c3 c4 c5 c6 
    obtain ⟨d0, d1, d2, d3', d4, d5, d6⟩ := hF2.cells
    have d3 : w2.cell? ⟨w.heap.size, 3, none⟩ = some (.int .u8 1) := d3'
    have HB2 := Lib.hid hb2
    have HMS := Lib.hid hms
    clear d3' hF2 hb2 hms
    rcases HWAY.out with ⟨y1, y2, y3, y4, y5⟩ | ⟨y1, y2, y3, y4, y6, y7, y5⟩ | ⟨y1, y4, y5⟩
    · have t4 : decide (127 < z) = false := decide_eq_false (by omega)
      have t5 : decide (z < (-126)) = true := decide_eq_true (by omega)
      have q4 : 150 + z = (b : Int) := by have := HY.out; omega
      have hQp : Q < 8388608 := by
        have h1 := lt_bl Q
        rw [← HQB.out] at h1
        exact Nat.lt_of_lt_of_le h1 (Nat.pow_le_pow_right (by decide) y3)
      obtain ⟨s, hs⟩ : ∃ s, s = 32 - b := ⟨_, rfl⟩
      have hs1 : s ≤ 32 := by omega
      have q5 : (32 : Int) - (b : Int) = (s : Int) := by omega
      obtain ⟨D, hD⟩ : ∃ D, D = 2 ^ s := ⟨_, rfl⟩
      have hD0 : 0 < D := by rw [hD]; exact Nat.two_pow_pos _
      have hS2 : (2 : Int) ^ s = (D : Int) := by rw [hD]; simp
      have htQ : t = Q * D := by rw [HTT.out, ← hs, ← hD]
      have hdv : (t : Int) / (D : Int) = (Q : Int) := by
        rw [htQ]
        have := Nat.mul_div_cancel Q hD0
        omega
      have HBV : Hid (BV = Q ∧ BS = A) := Lib.hid ⟨y4, y5⟩
      clear y1 y2 y3 y4 y5 hs hD HTT HQB htQ HWAY
      cases neg
      · have o1 : bits .or .u32 0 0 = 0 := by decide
        have o2 : bits .or .u32 0 (Q : Int) = (Q : Int) := by
          have := (f32_or (S := 0) (g := 0) (m := Q) (.inl rfl) (by decide) hQp).2
          simpa using this
        go_wp2_with fail
        refine HMS.out.mono ?_
        rintro _ _ ⟨rfl, rfl⟩
        go_wp2_with fail
        go_quiet (fail)
        go_wp2
        go_ret2
        rw [HBV.out.1, HBV.out.2]
        refine ⟨?_, undrewN' HB2.out⟩
        simp
      · have o1 : bits .or .u32 2147483648 0 = 2147483648 := by decide
        have o2 : bits .or .u32 2147483648 (Q : Int) = ((2147483648 + Q : Nat) : Int) := by
          have := (f32_or (S := 2147483648) (g := 0) (m := Q) (.inr rfl) (by decide) hQp).2
          simpa using this
        obtain ⟨R, hR⟩ : ∃ R, R = 2147483648 + Q := ⟨_, rfl⟩
        rw [← hR] at o2
        have HR := Lib.hid hR
        clear hR
        go_wp2_with fail
        refine HMS.out.mono ?_
        rintro _ _ ⟨rfl, rfl⟩
        go_wp2_with fail
        go_quiet (fail)
        go_wp2
        go_ret2
        rw [HBV.out.1, HBV.out.2]
        refine ⟨?_, undrewN' HB2.out⟩
        simp [HR.out]
    · have t4 : decide (127 < z) = false := decide_eq_false (by omega)
      have t5 : decide (z < (-126)) = false := decide_eq_false (by omega)
      obtain ⟨g, hg⟩ := Int.eq_ofNat_of_zero_le (show 0 ≤ y - (-126) by omega)
      have q4 : z + 127 = (g : Int) := by omega
      have hgb : g < 256 := by omega
      obtain ⟨G, hG⟩ : ∃ G, G = g * 8388608 := ⟨_, rfl⟩
      have hGb : G < 4294967296 := by omega
      have hsh : IntKind.u32.wrap ((g : Int) * 8388608) = (G : Int) := by rw [IntKind.wrap_u32]; omega
      have hsh2 : (g : Int) * 8388608 = (G : Int) := by omega
      have hQr : t / 256 % 8388608 = if b = 24 then Q - 8388608 else 0 := by
        rcases (by omega : b = 24 ∨ b = 25) with hb | hb
        · have h1 := y6 hb
          rw [if_pos hb, HTT.out, hb, show (2 : Nat) ^ (32 - 24) = 256 from rfl, Nat.mul_div_cancel _ (by decide)]
          omega
        · rw [if_neg (by omega), HTT.out, hb, y7 hb]
      obtain ⟨m, hm⟩ : ∃ m, m = if b = 24 then Q - 8388608 else 0 := ⟨_, rfl⟩
      have hmb : m < 8388608 := by
        rw [hm]
        split
        · rename_i hb; have := y6 hb; omega
        · decide
      rw [← hm] at hQr y4
      have y8 : BV = G + m := by rw [y4, hG, show (y - (-126)).toNat = g by omega]
      obtain ⟨t2, ht2⟩ : ∃ t2, t2 = t / 256 := ⟨_, rfl⟩
      have htd : (t : Int) / 256 = (t2 : Int) := by omega
      have hma : bits .and .u32 (t2 : Int) 8388607 = (m : Int) := by
        rw [← hQr, ← ht2, show (8388607 : Int) = ((8388607 : Nat) : Int) from rfl, u32_and_nat t2 _ (by omega) (by decide), show (8388607 : Nat) = 2 ^ 23 - 1 from rfl, Nat.and_two_pow_sub_one_eq_mod]
      have HBV : Hid (BV = G + m ∧ BS = A) := Lib.hid ⟨y8, y5⟩
      have hor := fun S hS => f32_or (S := S) (g := g) (m := m) hS hgb hmb
      rw [← hG] at hor
      clear y1 y2 y3 y4 y5 y6 y7 y8 hg hG hQr hm ht2 HTT HQB HWAY
      cases neg
      · have o1 : bits .or .u32 0 (G : Int) = (G : Int) := by
          have := (hor 0 (.inl rfl)).1
          simpa using this
        have o2 : bits .or .u32 (G : Int) (m : Int) = ((G + m : Nat) : Int) := by
          have := (hor 0 (.inl rfl)).2
          rw [Nat.zero_add] at this
          exact this
        obtain ⟨R, hR⟩ : ∃ R, R = G + m := ⟨_, rfl⟩
        rw [← hR] at o2 HBV
        clear hR hor
        go_wp2_with fail
        refine HMS.out.mono ?_
        rintro _ _ ⟨rfl, rfl⟩
        go_wp2_with fail
        go_quiet (fail)
        go_wp2
        go_ret2
        rw [HBV.out.1, HBV.out.2]
        refine ⟨?_, undrewN' HB2.out⟩
        simp
      · have o1 : bits .or .u32 2147483648 (G : Int) = ((2147483648 + G : Nat) : Int) := (hor 2147483648 (.inr rfl)).1
        have o2 : bits .or .u32 ((2147483648 + G : Nat) : Int) (m : Int) = ((2147483648 + G + m : Nat) : Int) := (hor 2147483648 (.inr rfl)).2
        obtain ⟨R, hR⟩ : ∃ R, R = 2147483648 + G + m := ⟨_, rfl⟩
        rw [← hR] at o2
        obtain ⟨H, hH⟩ : ∃ H, H = 2147483648 + G := ⟨_, rfl⟩
        rw [← hH] at o1 o2
        have HR : Hid (2147483648 + (G + m) = R) := Lib.hid (by omega)
        clear hR hH hor
        go_wp2_with fail
        refine HMS.out.mono ?_
        rintro _ _ ⟨rfl, rfl⟩
        go_wp2_with fail
        go_quiet (fail)
        go_wp2
        go_ret2
        rw [HBV.out.1, HBV.out.2]
        refine ⟨?_, undrewN' HB2.out⟩
        simp [HR.out]
    · have t4 : decide (127 < z) = true := decide_eq_true (by omega)
      have HBV : Hid (BV = 2139095040 ∧ BS = if neg then -1 else 1) := Lib.hid ⟨y4, y5⟩
      clear y1 y4 y5 HTT HQB HWAY HMS
      cases neg
      · go_wp2_with fail
        refine (mInfP _).mono ?_
        rintro _ _ ⟨rfl, rfl⟩
        go_wp2
        go_ret2
        rw [HBV.out.1, HBV.out.2]
        exact ⟨rfl, HB2.out⟩
      · go_wp2_with fail
        refine (mInfN _).mono ?_
        rintro _ _ ⟨rfl, rfl⟩
        go_wp2
        go_ret2
        rw [HBV.out.1, HBV.out.2]
        exact ⟨rfl, HB2.out⟩
  · have hpe : p' = 24 := HP3.out.2.2.2.2 (by omega)
    have t1 : decide (x < (-126)) = false := decide_eq_false (by omega)
    subst hpe
    have HN : Hid (FltR (w.alloc (.cells #[.int .u32 24, .int .u8 0, .int .i8 0, .int .u8 0, .bool false, .slice none 0 0, .int .i32 0] 89)) w.heap.size 24 0 0 0 false (.slice none 0 0) 0) := Lib.hid (box_row (Below.refl _ _))
    clear he3 HP3
    go_enter Try.func56, Try.ntmps56
    go_wp2_with fail
    refine (HSET.out _ HN.out (fbone _)).mono ?_
    rintro _ w2 ⟨rfl, v', hSv, hF2, hms, hng, hb2⟩
    clear HN t1 q1 HSET c0 c1 c2 c3 c4 c5 c6 
    obtain ⟨d0, d1, d2, d3', d4, d5, d6⟩ := hF2.cells
    have d3 : w2.cell? ⟨w.heap.size, 3, none⟩ = some (.int .u8 1) := d3'
    have HB2 := Lib.hid hb2
    have HMS := Lib.hid hms
    clear d3' hF2 hb2 hms
    rcases HWAY.out with ⟨y1, y2, y3, y4, y5⟩ | ⟨y1, y2, y3, y4, y6, y7, y5⟩ | ⟨y1, y4, y5⟩
    · have t4 : decide (127 < z) = false := decide_eq_false (by omega)
      have t5 : decide (z < (-126)) = true := decide_eq_true (by omega)
      have q4 : 150 + z = (b : Int) := by have := HY.out; omega
      have hQp : Q < 8388608 := by
        have h1 := lt_bl Q
        rw [← HQB.out] at h1
        exact Nat.lt_of_lt_of_le h1 (Nat.pow_le_pow_right (by decide) y3)
      obtain ⟨s, hs⟩ : ∃ s, s = 32 - b := ⟨_, rfl⟩
      have hs1 : s ≤ 32 := by omega
      have q5 : (32 : Int) - (b : Int) = (s : Int) := by omega
      obtain ⟨D, hD⟩ : ∃ D, D = 2 ^ s := ⟨_, rfl⟩
      have hD0 : 0 < D := by rw [hD]; exact Nat.two_pow_pos _
      have hS2 : (2 : Int) ^ s = (D : Int) := by rw [hD]; simp
      have htQ : t = Q * D := by rw [HTT.out, ← hs, ← hD]
      have hdv : (t : Int) / (D : Int) = (Q : Int) := by
        rw [htQ]
        have := Nat.mul_div_cancel Q hD0
        omega
      have HBV : Hid (BV = Q ∧ BS = A) := Lib.hid ⟨y4, y5⟩
      clear y1 y2 y3 y4 y5 hs hD HTT HQB htQ HWAY
      cases neg
      · have o1 : bits .or .u32 0 0 = 0 := by decide
        have o2 : bits .or .u32 0 (Q : Int) = (Q : Int) := by
          have := (f32_or (S := 0) (g := 0) (m := Q) (.inl rfl) (by decide) hQp).2
          simpa using this
        go_wp2_with fail
        refine HMS.out.mono ?_
        rintro _ _ ⟨rfl, rfl⟩
        go_wp2_with fail
        go_quiet (fail)
        go_wp2
        go_ret2
        rw [HBV.out.1, HBV.out.2]
        refine ⟨?_, undrewN' HB2.out⟩
        simp
      · have o1 : bits .or .u32 2147483648 0 = 2147483648 := by decide
        have o2 : bits .or .u32 2147483648 (Q : Int) = ((2147483648 + Q : Nat) : Int) := by
          have := (f32_or (S := 2147483648) (g := 0) (m := Q) (.inr rfl) (by decide) hQp).2
          simpa using this
        obtain ⟨R, hR⟩ : ∃ R, R = 2147483648 + Q := ⟨_, rfl⟩
        rw [← hR] at o2
        have HR := Lib.hid hR
        clear hR
        go_wp2_with fail
        refine HMS.out.mono ?_
        rintro _ _ ⟨rfl, rfl⟩
        go_wp2_with fail
        go_quiet (fail)
        go_wp2
        go_ret2
        rw [HBV.out.1, HBV.out.2]
        refine ⟨?_, undrewN' HB2.out⟩
        simp [HR.out]
    · have t4 : decide (127 < z) = false := decide_eq_false (by omega)
      have t5 : decide (z < (-126)) = false := decide_eq_false (by omega)
      obtain ⟨g, hg⟩ := Int.eq_ofNat_of_zero_le (show 0 ≤ y - (-126) by omega)
      have q4 : z + 127 = (g : Int) := by omega
      have hgb : g < 256 := by omega
      obtain ⟨G, hG⟩ : ∃ G, G = g * 8388608 := ⟨_, rfl⟩
      have hGb : G < 4294967296 := by omega
      have hsh : IntKind.u32.wrap ((g : Int) * 8388608) = (G : Int) := by rw [IntKind.wrap_u32]; omega
      have hsh2 : (g : Int) * 8388608 = (G : Int) := by omega
      have hQr : t / 256 % 8388608 = if b = 24 then Q - 8388608 else 0 := by
        rcases (by omega : b = 24 ∨ b = 25) with hb | hb
        · have h1 := y6 hb
          rw [if_pos hb, HTT.out, hb, show (2 : Nat) ^ (32 - 24) = 256 from rfl, Nat.mul_div_cancel _ (by decide)]
          omega
        · rw [if_neg (by omega), HTT.out, hb, y7 hb]
      obtain ⟨m, hm⟩ : ∃ m, m = if b = 24 then Q - 8388608 else 0 := ⟨_, rfl⟩
      have hmb : m < 8388608 := by
        rw [hm]
        split
        · rename_i hb; have := y6 hb; omega
        · decide
      rw [← hm] at hQr y4
      have y8 : BV = G + m := by rw [y4, hG, show (y - (-126)).toNat = g by omega]
      obtain ⟨t2, ht2⟩ : ∃ t2, t2 = t / 256 := ⟨_, rfl⟩
      have htd : (t : Int) / 256 = (t2 : Int) := by omega
      have hma : bits .and .u32 (t2 : Int) 8388607 = (m : Int) := by
        rw [← hQr, ← ht2, show (8388607 : Int) = ((8388607 : Nat) : Int) from rfl, u32_and_nat t2 _ (by omega) (by decide), show (8388607 : Nat) = 2 ^ 23 - 1 from rfl, Nat.and_two_pow_sub_one_eq_mod]
      have HBV : Hid (BV = G + m ∧ BS = A) := Lib.hid ⟨y8, y5⟩
      have hor := fun S hS => f32_or (S := S) (g := g) (m := m) hS hgb hmb
      rw [← hG] at hor
      clear y1 y2 y3 y4 y5 y6 y7 y8 hg hG hQr hm ht2 HTT HQB HWAY
      cases neg
      · have o1 : bits .or .u32 0 (G : Int) = (G : Int) := by
          have := (hor 0 (.inl rfl)).1
          simpa using this
        have o2 : bits .or .u32 (G : Int) (m : Int) = ((G + m : Nat) : Int) := by
          have := (hor 0 (.inl rfl)).2
          rw [Nat.zero_add] at this
          exact this
        obtain ⟨R, hR⟩ : ∃ R, R = G + m := ⟨_, rfl⟩
        rw [← hR] at o2 HBV
        clear hR hor
        go_wp2_with fail
        refine HMS.out.mono ?_
        rintro _ _ ⟨rfl, rfl⟩
        go_wp2_with fail
        go_quiet (fail)
        go_wp2
        go_ret2
        rw [HBV.out.1, HBV.out.2]
        refine ⟨?_, undrewN' HB2.out⟩
        simp
      · have o1 : bits .or .u32 2147483648 (G : Int) = ((2147483648 + G : Nat) : Int) := (hor 2147483648 (.inr rfl)).1
        have o2 : bits .or .u32 ((2147483648 + G : Nat) : Int) (m : Int) = ((2147483648 + G + m : Nat) : Int) := (hor 2147483648 (.inr rfl)).2
        obtain ⟨R, hR⟩ : ∃ R, R = 2147483648 + G + m := ⟨_, rfl⟩
        rw [← hR] at o2
        obtain ⟨H, hH⟩ : ∃ H, H = 2147483648 + G := ⟨_, rfl⟩
        rw [← hH] at o1 o2
        have HR : Hid (2147483648 + (G + m) = R) := Lib.hid (by omega)
        clear hR hH hor
        go_wp2_with fail
        refine HMS.out.mono ?_
        rintro _ _ ⟨rfl, rfl⟩
        go_wp2_with fail
        go_quiet (fail)
        go_wp2
        go_ret2
        rw [HBV.out.1, HBV.out.2]
        refine ⟨?_, undrewN' HB2.out⟩
        simp [HR.out]
    · have t4 : decide (127 < z) = true := decide_eq_true (by omega)
      have HBV : Hid (BV = 2139095040 ∧ BS = if neg then -1 else 1) := Lib.hid ⟨y4, y5⟩
      clear y1 y4 y5 HTT HQB HWAY HMS
      cases neg
      · go_wp2_with fail
        refine (mInfP _).mono ?_
        rintro _ _ ⟨rfl, rfl⟩
        go_wp2
        go_ret2
        rw [HBV.out.1, HBV.out.2]
        exact ⟨rfl, HB2.out⟩
      · go_wp2_with fail
        refine (mInfN _).mono ?_
        rintro _ _ ⟨rfl, rfl⟩
        go_wp2
        go_ret2
        rw [HBV.out.1, HBV.out.2]
        exact ⟨rfl, HB2.out⟩
end Go.Proofs.Ytlgnaioodnhkjaa
