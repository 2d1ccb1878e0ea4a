/-
Texts of this proof, joined: MsB FdD FdE FdF SnA MuA. No condition.
-/
import Derived.Test.YtllhnjpnkmjopaaGreatDoorK04
import Derived.Test.YtllhnjpnkmjopaaGreatDoorK08
import Derived.Test.YtllhnjpnkmjopaaGreatDoorK15
import Derived.Test.YtllhnjpnkmjopaaGreatDoorK17
import Derived.Test.YtllhnjpnkmjopaaGreatDoorK18
import Derived.Test.YtllhnjpnkmjopaaGreatDoorK19
import Derived.Deep.QuietTactic
import Derived.BigQuiet
namespace Go.Proofs.YtllhnjpnkmjopaaGreatDoor
open Go.RowKit

theorem wv_top {ws : List Nat} (h : ∀ d ∈ ws, d < 18446744073709551616) (h0 : 0 < ws.length) : ws.getD (ws.length - 1) 0 = wv ws / 2 ^ (64 * (ws.length - 1)) := by
  have h1 := wv_lt h
  rw [← wv_dig h]
  unfold wdg
  have e1 : (18446744073709551616 : Nat) ^ (ws.length - 1) = 2 ^ (64 * (ws.length - 1)) := by rw [Nat.pow_mul]
  rw [e1, Nat.mod_eq_of_lt]
  refine Nat.div_lt_of_lt_mul ?_
  have e2 : (18446744073709551616 : Nat) ^ ws.length = 2 ^ (64 * (ws.length - 1)) * 18446744073709551616 := by
    rw [← e1, ← Nat.pow_succ]; congr 1; omega
  rw [← e2]; exact h1
set_option maxRecDepth 100000 in
theorem msb64_any (v : Value) (ws : List Nat) (w : World) (hv : RW w v ws) (h0 : 0 < ws.length) (hl : ws.length ≤ 1000000) :
    Calls Tryz.prog 112 #[v] w fun e' w' => e' = .returned (.int .u64 (ws.getD (ws.length - 1) 0 : Nat)) ∧ w = w' := by
  have hS := hv.isS
  have hL := hv.len
  have hc := hv.cell (ws.length - 1) (by omega)
  obtain ⟨d, hd⟩ : ∃ d, d = ws.getD (ws.length - 1) 0 := ⟨_, rfl⟩
  rw [← hd] at hc ⊢
  obtain ⟨k, hk⟩ : ∃ k, ws.length = k + 1 := ⟨ws.length - 1, by omega⟩
  rw [hk] at hL hl
  rw [hk, Nat.add_sub_cancel] at hc
  have e1 : ((k + 1 : Nat) : Int) - 1 = (k : Int) := by omega
  clear hv hd h0 hk
  go_enter Tryz.func112, Tryz.ntmps112
  go_wp2
  go_ret
  exact ⟨rfl, rfl⟩
theorem set_msb64 (b B c Bx p0 p m : Nat) (a : Int) (neg : Bool) (M : Nat) (X : Int) (Q : Nat) (u : Int) (w : World) (h : FltR w b p0 0 0 0 false (.slice none 0 0) 0) (hB : B ≤ b) (hx : FVal w Bx c p m a 1 neg M X) (hbc : b ≠ c)
    (hp0 : 0 < p0) (hp0' : p0 ≤ 64) (hp : 0 < p) (hp' : p ≤ 64000000) (hX : -900000000 ≤ X ∧ X + bl M ≤ 900000000) (hd : deq (rQ p0 0 neg 0 M) (X + rk p0 M) Q u) (hQ : bl Q ≤ 64) :
    Calls Tryz.prog 110 #[.pointer (some ⟨b, 0, none⟩), .pointer (some ⟨c, 0, none⟩)] w fun e' w' => e' = .returned (.pointer (some ⟨b, 0, none⟩)) ∧ ∃ v', IsS v' ∧ FltR w' b p0 0 (rA p0 0 neg 0 M) 1 neg v' (u + bl Q) ∧
      (Calls Tryz.prog 112 #[v'] w' fun e'' w'' => e'' = .returned (.int .u64 ((Q * 2 ^ (64 - bl Q) : Nat) : Int)) ∧ w' = w'') ∧ Below B w w' := by
  have hP : pOf p0 p = p0 := by unfold pOf; rw [if_neg (by omega)]
  have hs := setF_val b B c Bx p0 0 0 p m 1 0 0 a false neg M X w h hB hx hbc (by decide) hp hp' (by omega) (by decide) (fun _ => ⟨by omega, by omega⟩)
  rw [hP] at hs
  refine hs.mono ?_
  rintro _ w' ⟨rfl, ⟨v', e', hR, hF⟩, hb⟩
  obtain ⟨hM', ws, ho, hg, hdq⟩ := hF rfl
  obtain ⟨k1, k2⟩ := top_word hg (hdq.trans hd) hQ
  have hv := ho.rw' hg.2.2.1
  have hm := msb64_any v' ws w' hv hg.1 hg.2.1
  rw [wv_top hg.2.2.1 hg.1, k2] at hm
  have hA : stA 1 p0 0 neg M = rA p0 0 neg 0 M := if_pos rfl
  rw [hA, k1] at hR
  exact ⟨rfl, v', hv.isS, hR, hm, hb⟩
set_option maxRecDepth 100000 in
theorem mInfP (w : World) : Calls Tryz.prog 111 #[.int .i64 1] w fun e w' => e = .returned (.float .f64 9218868437227405312) ∧ w = w' := by
  go_enter Tryz.func111, Tryz.ntmps111
  have hc : ∀ w : World, (callFunc 64 #[.int .u64 9218868437227405312]).run Tryz.prog w = .ok (.value (.float .f64 9218868437227405312)) w := fun w => f64from 9218868437227405312 w
  go_wp2_with (simp only [hc])
  go_ret
  exact ⟨rfl, rfl⟩
set_option maxRecDepth 100000 in
theorem mInfN (w : World) : Calls Tryz.prog 111 #[.int .i64 (-1)] w fun e w' => e = .returned (.float .f64 18442240474082181120) ∧ w = w' := by
  go_enter Tryz.func111, Tryz.ntmps111
  have hc : ∀ w : World, (callFunc 64 #[.int .u64 18442240474082181120]).run Tryz.prog w = .ok (.value (.float .f64 18442240474082181120)) w := fun w => f64from 18442240474082181120 w
  go_wp2_with (simp only [hc])
  go_ret
  exact ⟨rfl, rfl⟩
@[go_sem] theorem run_neg_f64 (w : World) : (Op.unary .neg (.float .f64 0)).run Tryz.prog w = .ok (.float .f64 9223372036854775808) w := by
  have h : Op.negFloat .f64 0 = 9223372036854775808 := by decide
  rw [← h]; rfl
@[go_sem] theorem run_neg_f32 (w : World) : (Op.unary .neg (.float .f32 0)).run Tryz.prog w = .ok (.float .f32 2147483648) w := by
  have h : Op.negFloat .f32 0 = 2147483648 := by decide
  rw [← h]; rfl
set_option maxRecDepth 100000 in
set_option maxHeartbeats 800000 in
theorem float64_low (c p m : Nat) (a e : Int) (neg : Bool) (v : Value) (w : World) (h : FltR w c p m a 1 neg v e) (he : e < -1074) (he1 : -900000000 ≤ e) :
    Calls Tryz.prog 65 #[.pointer (some ⟨c, 0, none⟩)] w fun e' w' => e' = .returned (.tuple #[.float .f64 (if neg then 9223372036854775808 else 0), .int .i8 (if neg then 1 else -1)]) ∧ Below w.heap.size w w' := by
  obtain ⟨c0, c1, c2, c3', c4, c5, c6⟩ := h.cells
  have c3 : w.cell? ⟨c, 3, none⟩ = some (.int .u8 1) := c3'
  obtain ⟨x, hx⟩ : ∃ x : Int, x = e - 1 := ⟨_, rfl⟩
  have q1 : e - 1 = x := hx.symm
  have hx1 : x < -1074 - 1 := by omega
  have hx2 : -900000001 ≤ x := by omega
  have t1 : decide (x < (-1022)) = true := decide_eq_true (by omega)
  have t2 : decide (1075 + x < 0) = true := decide_eq_true (by omega)
  have HB := Lib.hid (Below.refl w.heap.size w)
  clear h c3' hx he
  cases neg
  · go_enter Tryz.func65, Tryz.ntmps65
    go_wp2_with fail
    go_quiet (fail)
    go_wp2
    go_ret2
    exact ⟨rfl, undrewN' HB.out⟩
  · go_enter Tryz.func65, Tryz.ntmps65
    go_wp2_with fail
    go_quiet (fail)
    go_wp2
    go_ret2
    exact ⟨rfl, undrewN' HB.out⟩
set_option maxRecDepth 100000 in
set_option maxHeartbeats 6400000 in
theorem float64_fin (c Bx p m : Nat) (a e : Int) (neg : Bool) (v : Value) (ws : List Nat) (w : World) (h : FltR w c p m a 1 neg v e) (ho : Own w Bx 116 v (cellsW ws)) (hg : Good ws p) (hp0 : 0 < p) (hp : p ≤ 64000000) (he : -1074 < e) (he2 : e ≤ 900000000) :
    Calls Tryz.prog 65 #[.pointer (some ⟨c, 0, none⟩)] w fun e' w' => e' = .returned (.tuple #[.float .f64 ((if neg then 9223372036854775808 else 0) + btV neg (wv ws) (e - 64 * (ws.length : Int)) 52 (-1074) 2047), .int .i8 (btS neg (wv ws) (e - 64 * (ws.length : Int)) 52 (-1074) 2047)]) ∧ Below w.heap.size w w' := by
  have h0 := hg.posv
  have hb := hg.bl
  have hlb := hg.2.1
  have hcl := h.lt
  obtain ⟨E, hE⟩ : ∃ E : Int, E = e - 64 * (ws.length : Int) := ⟨_, rfl⟩
  rw [← hE]
  obtain ⟨M, hM⟩ : ∃ M, M = wv ws := ⟨_, rfl⟩
  rw [← hM] at h0 hb ⊢
  have hbe : E + (bl M : Int) = e := by omega
  obtain ⟨p', Q, u, p1, p2, p3, p4, p5, hd, hQ0, hQb, hway⟩ := f64_parts (n := neg) (E := E) h0 (by omega)
  rw [hbe] at p1 p4 p5
  have hne : w.heap.size ≠ c := by omega
  have hFX : FVal w Bx c p m a 1 neg M E := ⟨v, e, h, fun _ => ⟨h0, ws, ho, hg, by rw [← hM, ← hE]; exact deq.refl _ _⟩⟩
  have HSET : Hid (∀ W, FltR W w.heap.size p' 0 0 0 false (.slice none 0 0) 0 → Below w.heap.size w W → Calls Tryz.prog 110 #[.pointer (some ⟨w.heap.size, 0, none⟩), .pointer (some ⟨c, 0, none⟩)] W fun e' w' => e' = .returned (.pointer (some ⟨w.heap.size, 0, none⟩)) ∧ ∃ v', IsS v' ∧ FltR w' w.heap.size p' 0 (rA p' 0 neg 0 M) 1 neg v' (u + bl Q) ∧
      (Calls Tryz.prog 112 #[v'] w' fun e'' w'' => e'' = .returned (.int .u64 ((Q * 2 ^ (64 - bl Q) : Nat) : Int)) ∧ w' = w'') ∧ w'.cell? ⟨c, 4, none⟩ = some (.bool neg) ∧ Below w.heap.size w w') := Lib.hid (fun W hr hW => by
    refine (set_msb64 w.heap.size w.heap.size c Bx p' p m a neg M E Q u W hr (Nat.le_refl _) (hFX.below hW) hne (by omega) (by omega) hp0 hp (by omega) hd (by omega)).mono ?_
    rintro _ w' ⟨rfl, v', k1, k2, k3, k5⟩
    refine ⟨rfl, v', k1, k2, k3, ?_, hW.trans k5⟩
    have k6 : FltR w' c p m a 1 neg v e := keep_row' k5 (h.below hW) hcl
    exact k6.cells.2.2.2.2.1)
  have hAb := rA_bd p' 0 neg 0 M
  obtain ⟨A, hA⟩ : ∃ A, A = rA p' 0 neg 0 M := ⟨_, rfl⟩
  rw [← hA] at HSET hway hAb
  obtain ⟨y, hy⟩ : ∃ y : Int, y = u + bl Q := ⟨_, rfl⟩
  rw [← hy] at HSET hway
  obtain ⟨BV, hBV⟩ : ∃ BV, BV = btV neg M E 52 (-1074) 2047 := ⟨_, rfl⟩
  obtain ⟨BS, hBS⟩ : ∃ BS, BS = btS neg M E 52 (-1074) 2047 := ⟨_, rfl⟩
  rw [← hBV, ← hBS] at hway ⊢
  obtain ⟨c0, c1, c2, c3', c4, c5, c6⟩ := h.cells
  have c3 : w.cell? ⟨c, 3, none⟩ = some (.int .u8 1) := c3'
  obtain ⟨x, hx⟩ : ∃ x : Int, x = e - 1 := ⟨_, rfl⟩
  have q1 : e - 1 = x := hx.symm
  obtain ⟨z, hz⟩ : ∃ z : Int, z = y - 1 := ⟨_, rfl⟩
  have q2 : y - 1 = z := hz.symm
  have hyb : -2000 ≤ y ∧ y ≤ 900000100 := by omega
  obtain ⟨b, hbq⟩ : ∃ b, b = bl Q := ⟨_, rfl⟩
  rw [← hbq] at HSET hway hQb hy
  obtain ⟨t, ht⟩ : ∃ t, t = Q * 2 ^ (64 - b) := ⟨_, rfl⟩
  rw [← ht] at HSET
  have htl : t < 18446744073709551616 := by
    have h1 := lt_bl Q
    rw [← hbq] at h1
    have h2 := Nat.mul_lt_mul_of_pos_right h1 (Nat.two_pow_pos (64 - b))
    rw [← ht, ← Nat.pow_add, show b + (64 - b) = 64 by omega] at h2
    exact h2
  have HWAY := Lib.hid hway
  have HY := Lib.hid hy
  have HQB := Lib.hid hbq
  have HTT := Lib.hid ht
  have HP3 := Lib.hid (And.intro p1 (And.intro p2 (And.intro p3 (And.intro p4 p5))))
  clear h ho hg hp0 hp hcl hE hb h0 hM hbe p1 p4 p5 hd hQ0 hne hFX hA hBV hBS c3' hx hz hlb hway hbq ht hy
  by_cases he3 : e ≤ (-1022)
  · have hpe : (p' : Int) = e + 1074 := HP3.out.2.2.2.1 (by omega) he3
    have t1 : decide (x < (-1022)) = true := decide_eq_true (by omega)
    have q3 : 1075 + x = (p' : Int) := by omega
    have t2 : decide ((p' : Int) < 0) = false := decide_eq_false (by omega)
    have t3 : ((p' : Int) == 0) = false := by rw [beq_eq_false_iff_ne]; omega
    clear he3 hpe HP3
    go_enter Tryz.func65, Tryz.ntmps65
    go_wp2_with fail
    go_quiet (fail)
    have hN : FltR ((w.drewN nq).alloc (.cells #[.int .u32 0, .int .u8 0, .int .i8 0, .int .u8 0, .bool false, .slice none 0 0, .int .i32 0] 129)) w.heap.size 0 0 0 0 false (.slice none 0 0) 0 := newF_row (w.drewN nq)
    have k0 := hN.cells.1
    have k1 := hN.free.1
    have HN := Lib.hid (hN.s0 p')
    have hbn : Below w.heap.size (w.drewN nq) ((w.drewN nq).alloc (.cells #[.int .u32 0, .int .u8 0, .int .i8 0, .int .u8 0, .bool false, .slice none 0 0, .int .i32 0] 129)) := fbone (W := w.drewN nq) _
    have HBN := Lib.hid (bset (i := 0) (u := .int .u32 (p' : Int)) (undrewN hbn) (Nat.le_refl _))
    clear hN hbn t2 t3
    go_wp2_with fail
    refine (HSET.out _ HN.out HBN.out).mono ?_
    rintro _ w2 ⟨rfl, v', hSv, hF2, hms, hng, hb2⟩
    clear k0 k1 HN HBN t1 q1 q3 HSET c0 c1 c2 c3 c4 c5 c6 
    obtain ⟨d0, d1, d2, d3', d4, d5, d6⟩ := hF2.cells
    have d3 : w2.cell? ⟨w.heap.size, 3, none⟩ = some (.int .u8 1) := d3'
    have HB2 := Lib.hid hb2
    have HMS := Lib.hid hms
    clear d3' hF2 hb2 hms
    rcases HWAY.out with ⟨y1, y2, y3, y4, y5⟩ | ⟨y1, y2, y3, y4, y6, y7, y5⟩ | ⟨y1, y4, y5⟩
    · have t4 : decide (1023 < z) = false := decide_eq_false (by omega)
      have t5 : decide (z < (-1022)) = true := decide_eq_true (by omega)
      have q4 : 1075 + z = (b : Int) := by have := HY.out; omega
      have hQp : Q < 4503599627370496 := by
        have h1 := lt_bl Q
        rw [← HQB.out] at h1
        exact Nat.lt_of_lt_of_le h1 (Nat.pow_le_pow_right (by decide) y3)
      obtain ⟨s, hs⟩ : ∃ s, s = 64 - b := ⟨_, rfl⟩
      have hs1 : s ≤ 64 := by omega
      have q5 : (64 : Int) - (b : Int) = (s : Int) := by omega
      obtain ⟨D, hD⟩ : ∃ D, D = 2 ^ s := ⟨_, rfl⟩
      have hD0 : 0 < D := by rw [hD]; exact Nat.two_pow_pos _
      have hS2 : (2 : Int) ^ s = (D : Int) := by rw [hD]; simp
      have htQ : t = Q * D := by rw [HTT.out, ← hs, ← hD]
      have hdv : (t : Int) / (D : Int) = (Q : Int) := by
        rw [htQ]
        have := Nat.mul_div_cancel Q hD0
        omega
      have HBV : Hid (BV = Q ∧ BS = A) := Lib.hid ⟨y4, y5⟩
      clear y1 y2 y3 y4 y5 hs hD HTT HQB htQ HWAY
      cases neg
      · have o1 : bits .or .u64 0 0 = 0 := by decide
        have o2 : bits .or .u64 0 (Q : Int) = (Q : Int) := by
          have := (f64_or (S := 0) (g := 0) (m := Q) (.inl rfl) (by decide) hQp).2
          simpa using this
        go_wp2_with fail
        refine HMS.out.mono ?_
        rintro _ _ ⟨rfl, rfl⟩
        go_wp2_with fail
        go_quiet (fail)
        go_wp2
        go_ret2
        rw [HBV.out.1, HBV.out.2]
        refine ⟨?_, undrewN' HB2.out⟩
        simp
      · have o1 : bits .or .u64 9223372036854775808 0 = 9223372036854775808 := by decide
        have o2 : bits .or .u64 9223372036854775808 (Q : Int) = ((9223372036854775808 + Q : Nat) : Int) := by
          have := (f64_or (S := 9223372036854775808) (g := 0) (m := Q) (.inr rfl) (by decide) hQp).2
          simpa using this
        obtain ⟨R, hR⟩ : ∃ R, R = 9223372036854775808 + Q := ⟨_, rfl⟩
        rw [← hR] at o2
        have HR := Lib.hid hR
        clear hR
        go_wp2_with fail
        refine HMS.out.mono ?_
        rintro _ _ ⟨rfl, rfl⟩
        go_wp2_with fail
        go_quiet (fail)
        go_wp2
        go_ret2
        rw [HBV.out.1, HBV.out.2]
        refine ⟨?_, undrewN' HB2.out⟩
        simp [HR.out]
    · have t4 : decide (1023 < z) = false := decide_eq_false (by omega)
      have t5 : decide (z < (-1022)) = false := decide_eq_false (by omega)
      obtain ⟨g, hg⟩ := Int.eq_ofNat_of_zero_le (show 0 ≤ y - (-1022) by omega)
      have q4 : z + 1023 = (g : Int) := by omega
      have hgb : g < 2048 := by omega
      obtain ⟨G, hG⟩ : ∃ G, G = g * 4503599627370496 := ⟨_, rfl⟩
      have hGb : G < 18446744073709551616 := by omega
      have hsh : IntKind.u64.wrap ((g : Int) * 4503599627370496) = (G : Int) := by rw [IntKind.wrap_u64]; omega
      have hsh2 : (g : Int) * 4503599627370496 = (G : Int) := by omega
      have hQr : t / 2048 % 4503599627370496 = if b = 53 then Q - 4503599627370496 else 0 := by
        rcases (by omega : b = 53 ∨ b = 54) with hb | hb
        · have h1 := y6 hb
          rw [if_pos hb, HTT.out, hb, show (2 : Nat) ^ (64 - 53) = 2048 from rfl, Nat.mul_div_cancel _ (by decide)]
          omega
        · rw [if_neg (by omega), HTT.out, hb, y7 hb]
      obtain ⟨m, hm⟩ : ∃ m, m = if b = 53 then Q - 4503599627370496 else 0 := ⟨_, rfl⟩
      have hmb : m < 4503599627370496 := by
        rw [hm]
        split
        · rename_i hb; have := y6 hb; omega
        · decide
      rw [← hm] at hQr y4
      have y8 : BV = G + m := by rw [y4, hG, show (y - (-1022)).toNat = g by omega]
      obtain ⟨t2, ht2⟩ : ∃ t2, t2 = t / 2048 := ⟨_, rfl⟩
      have htd : (t : Int) / 2048 = (t2 : Int) := by omega
      have hma : bits .and .u64 (t2 : Int) 4503599627370495 = (m : Int) := by
        rw [← hQr, ← ht2, show (4503599627370495 : Int) = ((4503599627370495 : Nat) : Int) from rfl, u64_and_nat t2 _ (by omega) (by decide), show (4503599627370495 : Nat) = 2 ^ 52 - 1 from rfl, Nat.and_two_pow_sub_one_eq_mod]
      have HBV : Hid (BV = G + m ∧ BS = A) := Lib.hid ⟨y8, y5⟩
      have hor := fun S hS => f64_or (S := S) (g := g) (m := m) hS hgb hmb
      rw [← hG] at hor
      clear y1 y2 y3 y4 y5 y6 y7 y8 hg hG hQr hm ht2 HTT HQB HWAY
      cases neg
      · have o1 : bits .or .u64 0 (G : Int) = (G : Int) := by
          have := (hor 0 (.inl rfl)).1
          simpa using this
        have o2 : bits .or .u64 (G : Int) (m : Int) = ((G + m : Nat) : Int) := by
          have := (hor 0 (.inl rfl)).2
          rw [Nat.zero_add] at this
          exact this
        obtain ⟨R, hR⟩ : ∃ R, R = G + m := ⟨_, rfl⟩
        rw [← hR] at o2 HBV
        clear hR hor
        go_wp2_with fail
        refine HMS.out.mono ?_
        rintro _ _ ⟨rfl, rfl⟩
        go_wp2_with fail
        go_quiet (fail)
        go_wp2
        go_ret2
        rw [HBV.out.1, HBV.out.2]
        refine ⟨?_, undrewN' HB2.out⟩
        simp
      · have o1 : bits .or .u64 9223372036854775808 (G : Int) = ((9223372036854775808 + G : Nat) : Int) := (hor 9223372036854775808 (.inr rfl)).1
        have o2 : bits .or .u64 ((9223372036854775808 + G : Nat) : Int) (m : Int) = ((9223372036854775808 + G + m : Nat) : Int) := (hor 9223372036854775808 (.inr rfl)).2
        obtain ⟨R, hR⟩ : ∃ R, R = 9223372036854775808 + G + m := ⟨_, rfl⟩
        rw [← hR] at o2
        obtain ⟨H, hH⟩ : ∃ H, H = 9223372036854775808 + G := ⟨_, rfl⟩
        rw [← hH] at o1 o2
        have HR : Hid (9223372036854775808 + (G + m) = R) := Lib.hid (by omega)
        clear hR hH hor
        go_wp2_with fail
        refine HMS.out.mono ?_
        rintro _ _ ⟨rfl, rfl⟩
        go_wp2_with fail
        go_quiet (fail)
        go_wp2
        go_ret2
        rw [HBV.out.1, HBV.out.2]
        refine ⟨?_, undrewN' HB2.out⟩
        simp [HR.out]
    · have t4 : decide (1023 < z) = true := decide_eq_true (by omega)
      have HBV : Hid (BV = 9218868437227405312 ∧ BS = if neg then -1 else 1) := Lib.hid ⟨y4, y5⟩
      clear y1 y4 y5 HTT HQB HWAY HMS
      cases neg
      · go_wp2_with fail
        refine (mInfP _).mono ?_
        rintro _ _ ⟨rfl, rfl⟩
        go_wp2
        go_ret2
        rw [HBV.out.1, HBV.out.2]
        exact ⟨rfl, HB2.out⟩
      · go_wp2_with fail
        refine (mInfN _).mono ?_
        rintro _ _ ⟨rfl, rfl⟩
        go_wp2
        go_ret2
        rw [HBV.out.1, HBV.out.2]
        exact ⟨rfl, HB2.out⟩
  · have hpe : p' = 53 := HP3.out.2.2.2.2 (by omega)
    have t1 : decide (x < (-1022)) = false := decide_eq_false (by omega)
    subst hpe
    have HN : Hid (FltR (w.alloc (.cells #[.int .u32 53, .int .u8 0, .int .i8 0, .int .u8 0, .bool false, .slice none 0 0, .int .i32 0] 129)) w.heap.size 53 0 0 0 false (.slice none 0 0) 0) := Lib.hid (box_row (Below.refl _ _))
    clear he3 HP3
    go_enter Tryz.func65, Tryz.ntmps65
    go_wp2_with fail
    refine (HSET.out _ HN.out (fbone _)).mono ?_
    rintro _ w2 ⟨rfl, v', hSv, hF2, hms, hng, hb2⟩
    clear HN t1 q1 HSET c0 c1 c2 c3 c4 c5 c6 
    obtain ⟨d0, d1, d2, d3', d4, d5, d6⟩ := hF2.cells
    have d3 : w2.cell? ⟨w.heap.size, 3, none⟩ = some (.int .u8 1) := d3'
    have HB2 := Lib.hid hb2
    have HMS := Lib.hid hms
    clear d3' hF2 hb2 hms
    rcases HWAY.out with ⟨y1, y2, y3, y4, y5⟩ | ⟨y1, y2, y3, y4, y6, y7, y5⟩ | ⟨y1, y4, y5⟩
    · have t4 : decide (1023 < z) = false := decide_eq_false (by omega)
      have t5 : decide (z < (-1022)) = true := decide_eq_true (by omega)
      have q4 : 1075 + z = (b : Int) := by have := HY.out; omega
      have hQp : Q < 4503599627370496 := by
        have h1 := lt_bl Q
        rw [← HQB.out] at h1
        exact Nat.lt_of_lt_of_le h1 (Nat.pow_le_pow_right (by decide) y3)
      obtain ⟨s, hs⟩ : ∃ s, s = 64 - b := ⟨_, rfl⟩
      have hs1 : s ≤ 64 := by omega
      have q5 : (64 : Int) - (b : Int) = (s : Int) := by omega
      obtain ⟨D, hD⟩ : ∃ D, D = 2 ^ s := ⟨_, rfl⟩
      have hD0 : 0 < D := by rw [hD]; exact Nat.two_pow_pos _
      have hS2 : (2 : Int) ^ s = (D : Int) := by rw [hD]; simp
      have htQ : t = Q * D := by rw [HTT.out, ← hs, ← hD]
      have hdv : (t : Int) / (D : Int) = (Q : Int) := by
        rw [htQ]
        have := Nat.mul_div_cancel Q hD0
        omega
      have HBV : Hid (BV = Q ∧ BS = A) := Lib.hid ⟨y4, y5⟩
      clear y1 y2 y3 y4 y5 hs hD HTT HQB htQ HWAY
      cases neg
      · have o1 : bits .or .u64 0 0 = 0 := by decide
        have o2 : bits .or .u64 0 (Q : Int) = (Q : Int) := by
          have := (f64_or (S := 0) (g := 0) (m := Q) (.inl rfl) (by decide) hQp).2
          simpa using this
        go_wp2_with fail
        refine HMS.out.mono ?_
        rintro _ _ ⟨rfl, rfl⟩
        go_wp2_with fail
        go_quiet (fail)
        go_wp2
        go_ret2
        rw [HBV.out.1, HBV.out.2]
        refine ⟨?_, undrewN' HB2.out⟩
        simp
      · have o1 : bits .or .u64 9223372036854775808 0 = 9223372036854775808 := by decide
        have o2 : bits .or .u64 9223372036854775808 (Q : Int) = ((9223372036854775808 + Q : Nat) : Int) := by
          have := (f64_or (S := 9223372036854775808) (g := 0) (m := Q) (.inr rfl) (by decide) hQp).2
          simpa using this
        obtain ⟨R, hR⟩ : ∃ R, R = 9223372036854775808 + Q := ⟨_, rfl⟩
        rw [← hR] at o2
        have HR := Lib.hid hR
        clear hR
        go_wp2_with fail
        refine HMS.out.mono ?_
        rintro _ _ ⟨rfl, rfl⟩
        go_wp2_with fail
        go_quiet (fail)
        go_wp2
        go_ret2
        rw [HBV.out.1, HBV.out.2]
        refine ⟨?_, undrewN' HB2.out⟩
        simp [HR.out]
    · have t4 : decide (1023 < z) = false := decide_eq_false (by omega)
      have t5 : decide (z < (-1022)) = false := decide_eq_false (by omega)
      obtain ⟨g, hg⟩ := Int.eq_ofNat_of_zero_le (show 0 ≤ y - (-1022) by omega)
      have q4 : z + 1023 = (g : Int) := by omega
      have hgb : g < 2048 := by omega
      obtain ⟨G, hG⟩ : ∃ G, G = g * 4503599627370496 := ⟨_, rfl⟩
      have hGb : G < 18446744073709551616 := by omega
      have hsh : IntKind.u64.wrap ((g : Int) * 4503599627370496) = (G : Int) := by rw [IntKind.wrap_u64]; omega
      have hsh2 : (g : Int) * 4503599627370496 = (G : Int) := by omega
      have hQr : t / 2048 % 4503599627370496 = if b = 53 then Q - 4503599627370496 else 0 := by
        rcases (by omega : b = 53 ∨ b = 54) with hb | hb
        · have h1 := y6 hb
          rw [if_pos hb, HTT.out, hb, show (2 : Nat) ^ (64 - 53) = 2048 from rfl, Nat.mul_div_cancel _ (by decide)]
          omega
        · rw [if_neg (by omega), HTT.out, hb, y7 hb]
      obtain ⟨m, hm⟩ : ∃ m, m = if b = 53 then Q - 4503599627370496 else 0 := ⟨_, rfl⟩
      have hmb : m < 4503599627370496 := by
        rw [hm]
        split
        · rename_i hb; have := y6 hb; omega
        · decide
      rw [← hm] at hQr y4
      have y8 : BV = G + m := by rw [y4, hG, show (y - (-1022)).toNat = g by omega]
      obtain ⟨t2, ht2⟩ : ∃ t2, t2 = t / 2048 := ⟨_, rfl⟩
      have htd : (t : Int) / 2048 = (t2 : Int) := by omega
      have hma : bits .and .u64 (t2 : Int) 4503599627370495 = (m : Int) := by
        rw [← hQr, ← ht2, show (4503599627370495 : Int) = ((4503599627370495 : Nat) : Int) from rfl, u64_and_nat t2 _ (by omega) (by decide), show (4503599627370495 : Nat) = 2 ^ 52 - 1 from rfl, Nat.and_two_pow_sub_one_eq_mod]
      have HBV : Hid (BV = G + m ∧ BS = A) := Lib.hid ⟨y8, y5⟩
      have hor := fun S hS => f64_or (S := S) (g := g) (m := m) hS hgb hmb
      rw [← hG] at hor
      clear y1 y2 y3 y4 y5 y6 y7 y8 hg hG hQr hm ht2 HTT HQB HWAY
      cases neg
      · have o1 : bits .or .u64 0 (G : Int) = (G : Int) := by
          have := (hor 0 (.inl rfl)).1
          simpa using this
        have o2 : bits .or .u64 (G : Int) (m : Int) = ((G + m : Nat) : Int) := by
          have := (hor 0 (.inl rfl)).2
          rw [Nat.zero_add] at this
          exact this
        obtain ⟨R, hR⟩ : ∃ R, R = G + m := ⟨_, rfl⟩
        rw [← hR] at o2 HBV
        clear hR hor
        go_wp2_with fail
        refine HMS.out.mono ?_
        rintro _ _ ⟨rfl, rfl⟩
        go_wp2_with fail
        go_quiet (fail)
        go_wp2
        go_ret2
        rw [HBV.out.1, HBV.out.2]
        refine ⟨?_, undrewN' HB2.out⟩
        simp
      · have o1 : bits .or .u64 9223372036854775808 (G : Int) = ((9223372036854775808 + G : Nat) : Int) := (hor 9223372036854775808 (.inr rfl)).1
        have o2 : bits .or .u64 ((9223372036854775808 + G : Nat) : Int) (m : Int) = ((9223372036854775808 + G + m : Nat) : Int) := (hor 9223372036854775808 (.inr rfl)).2
        obtain ⟨R, hR⟩ : ∃ R, R = 9223372036854775808 + G + m := ⟨_, rfl⟩
        rw [← hR] at o2
        obtain ⟨H, hH⟩ : ∃ H, H = 9223372036854775808 + G := ⟨_, rfl⟩
        rw [← hH] at o1 o2
        have HR : Hid (9223372036854775808 + (G + m) = R) := Lib.hid (by omega)
        clear hR hH hor
        go_wp2_with fail
        refine HMS.out.mono ?_
        rintro _ _ ⟨rfl, rfl⟩
        go_wp2_with fail
        go_quiet (fail)
        go_wp2
        go_ret2
        rw [HBV.out.1, HBV.out.2]
        refine ⟨?_, undrewN' HB2.out⟩
        simp [HR.out]
    · have t4 : decide (1023 < z) = true := decide_eq_true (by omega)
      have HBV : Hid (BV = 9218868437227405312 ∧ BS = if neg then -1 else 1) := Lib.hid ⟨y4, y5⟩
      clear y1 y4 y5 HTT HQB HWAY HMS
      cases neg
      · go_wp2_with fail
        refine (mInfP _).mono ?_
        rintro _ _ ⟨rfl, rfl⟩
        go_wp2
        go_ret2
        rw [HBV.out.1, HBV.out.2]
        exact ⟨rfl, HB2.out⟩
      · go_wp2_with fail
        refine (mInfN _).mono ?_
        rintro _ _ ⟨rfl, rfl⟩
        go_wp2
        go_ret2
        rw [HBV.out.1, HBV.out.2]
        exact ⟨rfl, HB2.out⟩
def f64V (f : Nat) (n : Bool) (M : Nat) (X : Int) : Nat := (if n then 9223372036854775808 else 0) + if f = 1 then btV n M X 52 (-1074) 2047 else if f = 0 then 0 else 9218868437227405312
def f64A (f : Nat) (n : Bool) (M : Nat) (X : Int) : Int := if f = 1 then btS n M X 52 (-1074) 2047 else 0
theorem f64_bd (f : Nat) (n : Bool) (M : Nat) (X : Int) : f64V f n M X < 18446744073709551616 ∧ -1 ≤ f64A f n M X ∧ f64A f n M X ≤ 1 := by
  have h1 := btV_le (n := n) (M := M) (k := 52) (T := 2047) (E := X) (L := -1074)
  have h2 := btS_bd n M 52 2047 X (-1074)
  rw [show 2047 * 2 ^ 52 = 9218868437227405312 from rfl] at h1
  unfold f64V f64A
  constructor
  · by_cases hf : f = 1
    · rw [if_pos hf]; split <;> omega
    · rw [if_neg hf]; repeat' split
      all_goals omega
  · split <;> omega
set_option maxRecDepth 100000 in
set_option maxHeartbeats 800000 in
theorem float64_zero (c p m : Nat) (a e : Int) (neg : Bool) (v : Value) (w : World) (h : FltR w c p m a 0 neg v e) :
    Calls Tryz.prog 65 #[.pointer (some ⟨c, 0, none⟩)] w fun e' w' => e' = .returned (.tuple #[.float .f64 (if neg then 9223372036854775808 else 0), .int .i8 0]) ∧ Below w.heap.size w w' := by
  obtain ⟨c0, c1, c2, c3', c4, c5, c6⟩ := h.cells
  have c3 : w.cell? ⟨c, 3, none⟩ = some (.int .u8 0) := c3'
  have HB := Lib.hid (Below.refl w.heap.size w)
  clear h c3'
  cases neg
  · go_enter Tryz.func65, Tryz.ntmps65
    go_wp2
    go_ret2
    exact ⟨rfl, HB.out⟩
  · go_enter Tryz.func65, Tryz.ntmps65
    go_wp2
    go_ret2
    exact ⟨rfl, HB.out⟩
set_option maxRecDepth 100000 in
set_option maxHeartbeats 800000 in
theorem float64_inf (c p m : Nat) (a e : Int) (neg : Bool) (v : Value) (w : World) (h : FltR w c p m a 2 neg v e) :
    Calls Tryz.prog 65 #[.pointer (some ⟨c, 0, none⟩)] w fun e' w' => e' = .returned (.tuple #[.float .f64 (if neg then 18442240474082181120 else 9218868437227405312), .int .i8 0]) ∧ Below w.heap.size w w' := by
  obtain ⟨c0, c1, c2, c3', c4, c5, c6⟩ := h.cells
  have c3 : w.cell? ⟨c, 3, none⟩ = some (.int .u8 2) := c3'
  have HB := Lib.hid (Below.refl w.heap.size w)
  clear h c3'
  cases neg
  · go_enter Tryz.func65, Tryz.ntmps65
    go_wp2_with fail
    refine (mInfP _).mono ?_
    rintro _ _ ⟨rfl, rfl⟩
    go_wp2
    go_ret2
    exact ⟨rfl, HB.out⟩
  · go_enter Tryz.func65, Tryz.ntmps65
    go_wp2_with fail
    refine (mInfN _).mono ?_
    rintro _ _ ⟨rfl, rfl⟩
    go_wp2
    go_ret2
    exact ⟨rfl, HB.out⟩
theorem float64_val (c Bx p m f : Nat) (a : Int) (neg : Bool) (M : Nat) (X : Int) (w : World) (hx : FVal w Bx c p m a f neg M X) (hf : f ≤ 2) (hp0 : f = 1 → 0 < p) (hp : p ≤ 64000000) (hX : f = 1 → -800000000 ≤ X + bl M ∧ X + bl M ≤ 800000000 ∧ X + bl M ≠ -1074) :
    Calls Tryz.prog 65 #[.pointer (some ⟨c, 0, none⟩)] w fun e' w' => e' = .returned (.tuple #[.float .f64 (f64V f neg M X), .int .i8 (f64A f neg M X)]) ∧ Below w.heap.size w w' := by
  obtain ⟨v, e, h1, h2⟩ := hx
  rcases (by omega : f = 0 ∨ f = 1 ∨ f = 2) with rfl | rfl | rfl
  · have h3 := float64_zero c p m a e neg v w h1
    have e1 : (if neg = true then 9223372036854775808 else 0) = f64V 0 neg M X := by cases neg <;> simp [f64V]
    have e2 : (0 : Int) = f64A 0 neg M X := by simp [f64A]
    rw [e1, e2] at h3
    exact h3
  · obtain ⟨hM, ws, ho, hg, hd⟩ := h2 rfl
    have h0 := hd.symm.pos hM
    have hb := hd.bl h0
    have hbl := hg.bl
    obtain ⟨k1, k2, k3⟩ := hX rfl
    have hb2 : e = X + bl M := by omega
    obtain ⟨q1, q2⟩ := btV_deq (n := neg) (k := 52) (T := 2047) (L := -1074) h0 hd (by omega) (by decide)
    rw [show f64V 1 neg M X = (if neg then 9223372036854775808 else 0) + btV neg (wv ws) (e - 64 * (ws.length : Int)) 52 (-1074) 2047 by rw [q1]; simp [f64V], show f64A 1 neg M X = btS neg (wv ws) (e - 64 * (ws.length : Int)) 52 (-1074) 2047 by rw [q2]; simp [f64A]]
    by_cases hl : e < -1074
    · obtain ⟨r1, r2⟩ := bt_low (n := neg) (k := 52) (T := 2047) (L := -1074) (E := e - 64 * (ws.length : Int)) h0 (by omega) (by decide)
      rw [r1, r2]
      exact float64_low c p m a e neg v w h1 hl (by omega)
    · exact float64_fin c Bx p m a e neg v ws w h1 ho hg (hp0 rfl) hp (by omega) (by omega)
  · have h3 := float64_inf c p m a e neg v w h1
    have e1 : (if neg = true then 18442240474082181120 else 9218868437227405312) = f64V 2 neg M X := by cases neg <;> simp [f64V]
    have e2 : (0 : Int) = f64A 2 neg M X := by simp [f64A]
    rw [e1, e2] at h3
    exact h3
theorem deq_zero {N M : Nat} {X Y : Int} (h : deq N X M Y) (h0 : N = 0) : M = 0 := by
  obtain ⟨i, j, h1, -⟩ := h
  rw [h0, Nat.zero_mul] at h1
  rcases Nat.mul_eq_zero.1 h1.symm with h2 | h2
  · exact h2
  · exact absurd h2 (Nat.ne_of_gt (Nat.two_pow_pos _))
theorem FloatAt.open {w : World} {B g p m M : Nat} {n : Bool} {E : Int} (h : FloatAt w B g p m 1 n M E) (hM : 0 < M) (hp : bl M ≤ p) (hb : bl M ≤ 10000) :
    ∃ r x, FltR w g p m 0 1 n r x ∧ Own w B 116 r (cellsW (topN M)) ∧ Good (topN M) p ∧ (topN M).length ≤ 200 ∧ x = (bl M : Nat) + E ∧ deq (wv (topN M)) (x - 64 * ((topN M).length : Int)) M E := by
  obtain ⟨-, r, x, h1, h2⟩ := h
  obtain ⟨hx, h3⟩ := h2 rfl
  have hn := nw_bl hM
  have hl : (topN M).length = nw M := topN_length _
  refine ⟨r, x, h1, h3, topN_good hM hp (by omega), by rw [hl]; omega, hx, ?_⟩
  rw [hl, topN_wv hM, hx]
  exact ⟨0, 64 * nw M - bl M, by simp, by omega⟩
def AddR (w : World) (B b q m : Nat) (zn : Bool) (V X : Int) : Prop :=
  FVal w B b q m (rA q m (vN V) 0 V.natAbs) (fO V.natAbs) (if V = 0 then zn else vN V) (rQ q m (vN V) 0 V.natAbs) (X + rk q V.natAbs)
theorem AddR.pos {w : World} {B b q m S : Nat} {zn n : Bool} {X : Int} (h : 0 < S) (hF : FVal w B b q m (rA q m n 0 S) 1 n (rQ q m n 0 S) (X + rk q S)) : AddR w B b q m zn (sI n S) X := by
  unfold AddR
  rw [natAbs_sI, vN_sI h, fO, if_neg (Nat.ne_of_gt h), if_neg (sI_ne h)]
  exact hF
theorem AddR.zero {w : World} {B b q m : Nat} {zn : Bool} {X e : Int} {v : Value} (h : FltR w b q m 0 0 zn v e) : AddR w B b q m zn 0 X := by
  unfold AddR
  obtain ⟨h1, h2, h3⟩ := rQ_zero q m (vN 0)
  rw [Int.natAbs_zero, h3, if_pos rfl, show fO 0 = 0 from rfl]
  exact ⟨v, e, h, fun hc => by cases hc⟩
theorem AddR.cast {w : World} {B b q m : Nat} {zn : Bool} {V V' X X' : Int} (h : AddR w B b q m zn V X) (hV : V = V') (hX : X = X') : AddR w B b q m zn V' X' := by rw [← hV, ← hX]; exact h
theorem FltR.at {w : World} {b p m f : Nat} {a : Int} {neg : Bool} {v : Value} {e : Int} (h : FltR w b p m a f neg v e) (i : Nat) (u : Value) {B1 g p1 m1 f1 M : Nat} {n1 : Bool} {E : Int} (hne : b ≠ g) (hx : FloatAt w B1 g p1 m1 f1 n1 M E) : FloatAt (w.setCell ⟨b, i, none⟩ u) B1 g p1 m1 f1 n1 M E := by
  obtain ⟨h1, r, x, h2, h3⟩ := hx
  refine ⟨h1, r, x, (heap_setCell_other _ _ _ _ (by simpa using hne.symm)).trans h2, fun hf => ?_⟩
  obtain ⟨h4, h5⟩ := h3 hf
  exact ⟨h4, h.own h5 i u⟩
theorem FloatAt.row {w : World} {B g p m f M : Nat} {n : Bool} {E : Int} (h : FloatAt w B g p m f n M E) : ∃ r x, FltR w g p m 0 f n r x := by
  obtain ⟨-, r, x, h, -⟩ := h; exact ⟨r, x, h⟩
theorem FloatAt.drewN {w : World} {B g p m f M : Nat} {n : Bool} {E : Int} (h : FloatAt w B g p m f n M E) (k : Nat) : FloatAt (w.drewN k) B g p m f n M E := h.below (undrewN' (Below.refl _ _))
def AddZ (w : World) (z : Value) (A : Int) (q m : Nat) (zn : Bool) (V X : Int) : Prop :=
  A = rA q m (vN V) 0 V.natAbs ∧ RealV w z q m (fO V.natAbs) (if V = 0 then zn else vN V) (rQ q m (vN V) 0 V.natAbs) (X + rk q V.natAbs)
theorem AddZ.below {w w' : World} {z : Value} {A : Int} {q m : Nat} {zn : Bool} {V X : Int} (h : AddZ w z A q m zn V X) (hb : Below w.heap.size w w') : AddZ w' z A q m zn V X := ⟨h.1, h.2.below hb⟩
theorem AddZ.told {w : World} {z : Value} {A : Int} {q m M : Nat} {zn ng : Bool} {V X : Int} (h : AddZ w z A q m zn V X) (hV : sI ng M = V) (hq : 0 < q) : Told w z q m ng (rQ q m ng 0 M) (X + (rk q M : Nat)) ∧ A = rA q m ng 0 M := by
  obtain ⟨h1, h2⟩ := h
  subst hV
  rcases Nat.eq_zero_or_pos M with h0 | h0
  · subst h0
    obtain ⟨k1, k2, k3⟩ := rQ_zero q m ng
    rw [sI_zero] at h1 h2
    rw [k2, k3]
    refine ⟨?_, by rw [h1]; exact (rQ_zero q m _).2.2⟩
    exact h2.told0
  · rw [natAbs_sI, vN_sI h0] at h1 h2
    rw [fO, if_neg (Nat.ne_of_gt h0), if_neg (sI_ne h0)] at h2
    exact ⟨h2.told (rQ_pos ng 0 hq h0) (deq.refl _ _), h1⟩
theorem ksT2 {W X : World} {i j : Nat} {a b c d e f a' b' c' d' e' f' : Value} {T T' : TypeId} (hr : W.heap[i]? = some (.cells #[a, b, c, d, e, f] T (0, 0))) (hq : W.heap[j]? = some (.cells #[a', b', c', d', e', f'] T' (0, 0))) (h : Below W.heap.size W X) :
    (X.cell? ⟨i, 0, none⟩ = some a ∧ X.cell? ⟨i, 1, none⟩ = some b ∧ X.cell? ⟨i, 2, none⟩ = some c ∧ X.cell? ⟨i, 3, none⟩ = some d ∧ X.cell? ⟨i, 4, none⟩ = some e ∧ X.cell? ⟨i, 5, none⟩ = some f) ∧
    (X.cell? ⟨j, 0, none⟩ = some a' ∧ X.cell? ⟨j, 1, none⟩ = some b' ∧ X.cell? ⟨j, 2, none⟩ = some c' ∧ X.cell? ⟨j, 3, none⟩ = some d' ∧ X.cell? ⟨j, 4, none⟩ = some e' ∧ X.cell? ⟨j, 5, none⟩ = some f') :=
  ⟨(ks12 hr h).2, (ks12 hq h).2⟩
theorem AddZ.form {w : World} {z : Value} {A : Int} {q m : Nat} {zn : Bool} {V X : Int} (h : AddZ w z A q m zn V X) : ∃ (f : Nat) (sg : Bool) (v : Value) (E : Int), z = .agg #[.int .u64 q, .int .i64 m, .int .i64 f, .bool sg, v, .int .i64 E] ∧ IsS v := by
  obtain ⟨v, E, h1, h2⟩ := h.2.form
  exact ⟨_, _, v, E, h1, h2⟩
set_option maxRecDepth 100000 in
theorem mulWWW_any (x y c q r : Nat) (w : World) (hx : x < 18446744073709551616) (hy : y < 18446744073709551616) (hc : c < 18446744073709551616) (h : x * y + c = r + 18446744073709551616 * q) (hr : r < 18446744073709551616) (hq : q < 18446744073709551616) :
    Calls Tryz.prog 235 #[.int .u64 x, .int .u64 y, .int .u64 c] w fun e w' => e = .returned (.tuple #[.int .u64 q, .int .u64 r]) ∧ w' = w := by
  have HM := Lib.hid (Tryz.bits_Mul x y hx hy w)
  obtain ⟨P, hP⟩ : ∃ P, P = x * y := ⟨_, rfl⟩
  rw [← hP] at HM h
  obtain ⟨hi, hhi⟩ : ∃ hi, hi = P / 18446744073709551616 := ⟨_, rfl⟩
  obtain ⟨lo, hlo⟩ : ∃ lo, lo = P % 18446744073709551616 := ⟨_, rfl⟩
  rw [← hhi, ← hlo] at HM
  obtain ⟨cc, hcc⟩ : ∃ cc, cc = q - hi := ⟨_, rfl⟩
  have H1 := Lib.hid (show lo + c = r + 18446744073709551616 * cc by omega)
  have hle : hi + cc = q := by omega
  have e0 : (hi : Int) + (cc : Int) = (q : Int) := by omega
  have e1 : IntKind.u64.wrap ((hi : Int) + (cc : Int)) = (q : Int) := by rw [e0, IntKind.wrap_u64]; omega
  have hlol : lo < 18446744073709551616 := by omega
  have hhil : hi < 18446744073709551616 := by omega
  clear hP hhi hlo hcc h hle
  go_enter Tryz.func235, Tryz.ntmps235
  go_wp2_with fail
  refine HM.out.mono ?_
  rintro _ _ ⟨rfl, rfl⟩
  go_wp2_with fail
  refine (bitsAdd0 lo c r cc _ H1.out hr).mono ?_
  rintro _ _ ⟨rfl, rfl⟩
  go_wp2
  go_ret2
  exact ⟨rfl, rfl⟩
theorem mul_word_lt {a y d q s : Nat} (ha : a < 18446744073709551616) (hy : y < 18446744073709551616) (hd : d < 18446744073709551616) (h : a * y + d = s + 18446744073709551616 * q) : q < 18446744073709551616 := by
  have h1 : a * y ≤ 18446744073709551615 * 18446744073709551615 := Nat.mul_le_mul (by omega) (by omega)
  omega
set_option maxRecDepth 100000 in
set_option maxHeartbeats 1600000 in
theorem mulAddVWW_g_any (v x : Value) (os : List Value) (xs : List Nat) (y r B : Nat) (w : World) (ho : Own w B 116 v os) (hx : RW w x xs) (hlx : xs.length = os.length)
    (hax : sBlk x = sBlk v → sOff v ≤ sOff x) (hy : y < 18446744073709551616) (hr : r < 18446744073709551616) (hl : os.length ≤ 1000000000) :
    Calls Tryz.prog 226 #[v, x, .int .u64 y, .int .u64 r] w fun e w' => ∃ c : Nat, e = .returned (.int .u64 c) ∧ (c < 18446744073709551616 ∧ wv xs * y + r = wv (wdsN (wv xs * y + r) os.length) + 18446744073709551616 ^ os.length * c) ∧ VvP v os.length B (wv xs * y + r) w w' := by
  have hS := ho.isS
  have hSx := hx.isS
  obtain ⟨L, hLw⟩ : ∃ L, L = os.length := ⟨_, rfl⟩
  have hL : sLen v = L := by rw [hLw]; exact ho.len
  have hLx : sLen x = L := by rw [hx.len, hlx, hLw]
  have R0 := Lib.hid (Vv.start ho hLw.symm)
  have HB0 : Hid (0 < L → 0 < sCap v ∧ B ≤ sBlk v) := Lib.hid (fun h => by
    have := hS.le
    have hc : 0 < sCap v := by omega
    exact ⟨hc, (ho.lt hc).1⟩)
  have HXL : Hid (xs.length = L) := Lib.hid (by omega)
  rw [← hLw] at hl ⊢
  have HX := Lib.hid hx
  have HAX := Lib.hid hax
  clear ho hLw hx hlx hax
  go_enter Tryz.func226, Tryz.ntmps226
  go_wp2
  go_loopw [8, 19] (fun c i wr => ∃ k d Z : Nat, k ≤ L ∧ i = .int .i64 k ∧ c = .int .u64 d ∧ (d < 18446744073709551616 ∧ wv (xs.take k) * y + r = Z + 18446744073709551616 ^ k * d) ∧ Vv v L B k Z w wr) (fun c i _ => L - (intOf i).toNat)
  case atStart => exact ⟨0, r, 0, Nat.zero_le _, rfl, rfl, ⟨hr, by simp [wv]⟩, R0.out⟩
  case round =>
    obtain ⟨k, d, Z, hk, rfl, rfl, ⟨hd, hZ⟩, hrel⟩ := hrel
    have HREL := Lib.hid hrel
    by_cases hkL : k < L
    · obtain ⟨hcap, hB⟩ := HB0.out (by omega)
      have cx := hrel.src HX.out HAX.out (Nat.le_refl k) (by rw [HXL.out]; exact hkL)
      obtain ⟨u, cv⟩ := hrel.own hkL
      have fz := hrel.frozen hcap (sOff v + k)
      have hxl := getD_ltW HX.out.lt k
      have e1 := wv_take_succ (ws := xs) (i := k) (by rw [HXL.out]; exact hkL)
      obtain ⟨a, ha⟩ : ∃ a, a = xs.getD k 0 := ⟨_, rfl⟩
      rw [← ha] at cx hxl e1
      obtain ⟨s, c, hsc, hs⟩ : ∃ s c, a * y + d = s + 18446744073709551616 * c ∧ s < 18446744073709551616 := ⟨(a * y + d) % 18446744073709551616, (a * y + d) / 18446744073709551616, by omega, by omega⟩
      have hc1 := mul_word_lt hxl hy hd hsc
      have HA : Hid (Calls Tryz.prog 235 #[.int .u64 a, .int .u64 y, .int .u64 d] wr fun e w' => e = .returned (.tuple #[.int .u64 c, .int .u64 s]) ∧ w' = wr) := Lib.hid (mulWWW_any a y d c s _ hxl hy hd hsc hs hc1)
      have HZ : Hid (wv (xs.take (k + 1)) * y + r = Z + 18446744073709551616 ^ k * s + 18446744073709551616 ^ (k + 1) * c) := Lib.hid (by
        rw [e1, Nat.pow_succ, Nat.mul_assoc]
        have h1 : 18446744073709551616 ^ k * (a * y + d) = 18446744073709551616 ^ k * s + 18446744073709551616 ^ k * (18446744073709551616 * c) := by rw [hsc, Nat.mul_add]
        rw [Nat.mul_add, ← Nat.mul_assoc] at h1
        rw [Nat.add_mul]
        omega)
      have PUT := Lib.hid (HREL.out.put hkL hB hs)
      clear hrel e1 ha hZ hsc
      go_wp2_with fail
      refine HA.out.mono ?_
      rintro _ _ ⟨rfl, rfl⟩
      go_wp2
      exact ⟨⟨k + 1, c, _, by omega, by go_num, rfl, ⟨hc1, HZ.out⟩, PUT.out⟩, by simp [intOf]; omega⟩
    · have hkk : k = L := by omega
      have HD : Hid ((d < 18446744073709551616 ∧ wv xs * y + r = wv (wdsN (wv xs * y + r) L) + 18446744073709551616 ^ L * d) ∧ VvP v L B (wv xs * y + r) w wr) := Lib.hid (by
        subst hkk
        rw [List.take_of_length_le (by rw [HXL.out]; exact Nat.le_refl _)] at hZ
        have hZl : Z < 18446744073709551616 ^ k := by
          obtain ⟨os', ds, g1, g2, g3, g4, g5, g6, g7, g8⟩ := hrel
          have := wv_lt g5
          rw [g4] at this; omega
        refine ⟨⟨hd, ?_⟩, hrel.done d hZ⟩
        rw [wdsN_wv, hZ, Nat.add_mul_mod_self_left, Nat.mod_eq_of_lt hZl])
      clear hrel hZ HREL
      go_wp2
      go_ret
      exact ⟨d, rfl, HD.out⟩
set_option maxRecDepth 100000 in
theorem mulAddVWW_any (v x : Value) (os : List Value) (xs : List Nat) (y r B : Nat) (w : World) (ho : Own w B 116 v os) (hx : RW w x xs) (hlx : xs.length = os.length)
    (hax : sBlk x = sBlk v → sOff v ≤ sOff x) (hy : y < 18446744073709551616) (hr : r < 18446744073709551616) (hl : os.length ≤ 1000000000) :
    Calls Tryz.prog 207 #[v, x, .int .u64 y, .int .u64 r] w fun e w' => ∃ c : Nat, e = .returned (.int .u64 c) ∧ (c < 18446744073709551616 ∧ wv xs * y + r = wv (wdsN (wv xs * y + r) os.length) + 18446744073709551616 ^ os.length * c) ∧ VvP v os.length B (wv xs * y + r) w w' := by
  have hS := ho.isS
  have hSx := hx.isS
  have H := Lib.hid (mulAddVWW_g_any v x os xs y r B w ho hx hlx hax hy hr hl)
  clear ho hx hlx hax hl
  go_enter Tryz.func207, Tryz.ntmps207
  go_wp2_with fail
  refine H.out.mono ?_
  rintro _ w1 ⟨c, rfl, h1, h2⟩
  have H1 := Lib.hid (And.intro h1 h2)
  clear h1 h2
  go_wp2
  go_ret
  exact ⟨c, rfl, H1.out⟩
set_option maxRecDepth 100000 in
set_option maxHeartbeats 1600000 in
theorem addMulVVWW_g_any (v x y : Value) (os : List Value) (xs ys : List Nat) (m a0 B : Nat) (w : World) (ho : Own w B 116 v os) (hx : RW w x xs) (hy : RW w y ys) (hlx : xs.length = os.length) (hly : ys.length = os.length)
    (hax : sBlk x = sBlk v → sOff v ≤ sOff x) (hay : sBlk y = sBlk v → sOff v ≤ sOff y) (hm : m < 18446744073709551616) (ha0 : a0 < 18446744073709551616) (hl : os.length ≤ 1000000000) :
    Calls Tryz.prog 223 #[v, x, y, .int .u64 m, .int .u64 a0] w fun e w' => ∃ c : Nat, e = .returned (.int .u64 c) ∧ (c < 18446744073709551616 ∧ wv xs + wv ys * m + a0 = wv (wdsN (wv xs + wv ys * m + a0) os.length) + 18446744073709551616 ^ os.length * c) ∧ VvP v os.length B (wv xs + wv ys * m + a0) w w' := by
  have hS := ho.isS
  have hSx := hx.isS
  have hSy := hy.isS
  obtain ⟨L, hLw⟩ : ∃ L, L = os.length := ⟨_, rfl⟩
  have hL : sLen v = L := by rw [hLw]; exact ho.len
  have hLx : sLen x = L := by rw [hx.len, hlx, hLw]
  have hLy : sLen y = L := by rw [hy.len, hly, hLw]
  have R0 := Lib.hid (Vv.start ho hLw.symm)
  have HB0 : Hid (0 < L → 0 < sCap v ∧ B ≤ sBlk v) := Lib.hid (fun h => by
    have := hS.le
    have hc : 0 < sCap v := by omega
    exact ⟨hc, (ho.lt hc).1⟩)
  have HXL : Hid (xs.length = L) := Lib.hid (by omega)
  have HYL : Hid (ys.length = L) := Lib.hid (by omega)
  rw [← hLw] at hl ⊢
  have HX := Lib.hid hx
  have HY := Lib.hid hy
  have HAX := Lib.hid hax
  have HAY := Lib.hid hay
  clear ho hLw hx hy hlx hly hax hay
  go_enter Tryz.func223, Tryz.ntmps223
  go_wp2
  go_loopw [10, 32] (fun c i wr => ∃ k d Z : Nat, k ≤ L ∧ i = .int .i64 k ∧ c = .int .u64 d ∧ (d < 18446744073709551616 ∧ wv (xs.take k) + wv (ys.take k) * m + a0 = Z + 18446744073709551616 ^ k * d) ∧ Vv v L B k Z w wr) (fun c i _ => L - (intOf i).toNat)
  case atStart => exact ⟨0, a0, 0, Nat.zero_le _, rfl, rfl, ⟨ha0, by simp [wv]⟩, R0.out⟩
  case round =>
    obtain ⟨k, d, Z, hk, rfl, rfl, ⟨hd, hZ⟩, hrel⟩ := hrel
    have HREL := Lib.hid hrel
    by_cases hkL : k < L
    · obtain ⟨hcap, hB⟩ := HB0.out (by omega)
      have cx := hrel.src HX.out HAX.out (Nat.le_refl k) (by rw [HXL.out]; exact hkL)
      have cy := hrel.src HY.out HAY.out (Nat.le_refl k) (by rw [HYL.out]; exact hkL)
      obtain ⟨u, cv⟩ := hrel.own hkL
      have fz := hrel.frozen hcap (sOff v + k)
      have hxl := getD_ltW HX.out.lt k
      have hyl := getD_ltW HY.out.lt k
      have e1 := wv_take_succ (ws := xs) (i := k) (by rw [HXL.out]; exact hkL)
      have e2 := wv_take_succ (ws := ys) (i := k) (by rw [HYL.out]; exact hkL)
      obtain ⟨a, ha⟩ : ∃ a, a = xs.getD k 0 := ⟨_, rfl⟩
      obtain ⟨b, hb⟩ : ∃ b, b = ys.getD k 0 := ⟨_, rfl⟩
      rw [← ha] at cx hxl e1
      rw [← hb] at cy hyl e2
      have hbm : b * m ≤ 18446744073709551615 * 18446744073709551615 := Nat.mul_le_mul (by omega) (by omega)
      obtain ⟨s, z1, hsc, hs⟩ : ∃ s z1, b * m + a = s + 18446744073709551616 * z1 ∧ s < 18446744073709551616 := ⟨(b * m + a) % 18446744073709551616, (b * m + a) / 18446744073709551616, by omega, by omega⟩
      have hz1 : z1 < 18446744073709551616 := by omega
      obtain ⟨l, cc, hlc, hll⟩ : ∃ l cc, s + d = l + 18446744073709551616 * cc ∧ l < 18446744073709551616 := ⟨(s + d) % 18446744073709551616, (s + d) / 18446744073709551616, by omega, by omega⟩
      obtain ⟨c, hc⟩ : ∃ c, c = cc + z1 := ⟨_, rfl⟩
      have hc1 : c < 18446744073709551616 := by omega
      have hcc1 : cc < 18446744073709551616 := by omega
      have e3 : (cc : Int) + (z1 : Int) = (c : Int) := by omega
      have e4 : IntKind.u64.wrap ((cc : Int) + (z1 : Int)) = (c : Int) := by rw [e3, IntKind.wrap_u64]; omega
      have HA : Hid (∀ n, Calls Tryz.prog 235 #[.int .u64 b, .int .u64 m, .int .u64 a] (wr.drewN n) fun e w' => e = .returned (.tuple #[.int .u64 z1, .int .u64 s]) ∧ w' = wr.drewN n) := Lib.hid (fun n => mulWWW_any b m a z1 s _ hyl hm hxl hsc hs hz1)
      have HB : Hid (∀ W, Calls Tryz.prog 185 #[.int .u64 s, .int .u64 d, .int .u64 0] W fun e w' => e = .returned (.tuple #[.int .u64 l, .int .u64 cc]) ∧ W = w') := Lib.hid (fun W => bitsAdd0 s d l cc W hlc hll)
      have HZ : Hid (wv (xs.take (k + 1)) + wv (ys.take (k + 1)) * m + a0 = Z + 18446744073709551616 ^ k * l + 18446744073709551616 ^ (k + 1) * c) := Lib.hid (by
        rw [e1, e2, Nat.pow_succ, Nat.mul_assoc]
        have h0 : b * m + a + d = l + 18446744073709551616 * c := by omega
        have h1 : 18446744073709551616 ^ k * (b * m + a + d) = 18446744073709551616 ^ k * l + 18446744073709551616 ^ k * (18446744073709551616 * c) := by rw [h0, Nat.mul_add]
        rw [Nat.mul_add, Nat.mul_add, ← Nat.mul_assoc] at h1
        rw [Nat.add_mul]
        omega)
      have PUT := Lib.hid (fun n => (HREL.out.drewN (k := n)).put hkL hB hll)
      clear hrel e1 e2 ha hb hZ hsc hbm hlc hc
      go_wp2_with fail
      go_quiet ((go_at_call 235; exact Calls.quiet_of_same (HA.out _)))
      go_wp2_with fail
      refine (HB.out _).mono ?_
      rintro _ _ ⟨rfl, rfl⟩
      go_wp2
      exact ⟨⟨k + 1, c, _, by omega, by go_num, rfl, ⟨hc1, HZ.out⟩, PUT.out nq⟩, by simp [intOf]; omega⟩
    · have hkk : k = L := by omega
      have HD : Hid ((d < 18446744073709551616 ∧ wv xs + wv ys * m + a0 = wv (wdsN (wv xs + wv ys * m + a0) L) + 18446744073709551616 ^ L * d) ∧ VvP v L B (wv xs + wv ys * m + a0) w wr) := Lib.hid (by
        subst hkk
        rw [List.take_of_length_le (by rw [HXL.out]; exact Nat.le_refl _), List.take_of_length_le (by rw [HYL.out]; exact Nat.le_refl _)] at hZ
        have hZl : Z < 18446744073709551616 ^ k := by
          obtain ⟨os', ds, g1, g2, g3, g4, g5, g6, g7, g8⟩ := hrel
          have := wv_lt g5
          rw [g4] at this; omega
        refine ⟨⟨hd, ?_⟩, hrel.done d hZ⟩
        rw [wdsN_wv, hZ, Nat.add_mul_mod_self_left, Nat.mod_eq_of_lt hZl])
      clear hrel hZ HREL
      go_wp2
      go_ret
      exact ⟨d, rfl, HD.out⟩
set_option maxRecDepth 100000 in
theorem addMulVVWW_any (v x y : Value) (os : List Value) (xs ys : List Nat) (m a0 B : Nat) (w : World) (ho : Own w B 116 v os) (hx : RW w x xs) (hy : RW w y ys) (hlx : xs.length = os.length) (hly : ys.length = os.length)
    (hax : sBlk x = sBlk v → sOff v ≤ sOff x) (hay : sBlk y = sBlk v → sOff v ≤ sOff y) (hm : m < 18446744073709551616) (ha0 : a0 < 18446744073709551616) (hl : os.length ≤ 1000000000) :
    Calls Tryz.prog 201 #[v, x, y, .int .u64 m, .int .u64 a0] w fun e w' => ∃ c : Nat, e = .returned (.int .u64 c) ∧ (c < 18446744073709551616 ∧ wv xs + wv ys * m + a0 = wv (wdsN (wv xs + wv ys * m + a0) os.length) + 18446744073709551616 ^ os.length * c) ∧ VvP v os.length B (wv xs + wv ys * m + a0) w w' := by
  have hS := ho.isS
  have hSx := hx.isS
  have hSy := hy.isS
  have H := Lib.hid (addMulVVWW_g_any v x y os xs ys m a0 B w ho hx hy hlx hly hax hay hm ha0 hl)
  clear ho hx hy hlx hly hax hay hl
  go_enter Tryz.func201, Tryz.ntmps201
  go_wp2_with fail
  refine H.out.mono ?_
  rintro _ w1 ⟨c, rfl, h1, h2⟩
  have H1 := Lib.hid (And.intro h1 h2)
  clear h1 h2
  go_wp2
  go_ret
  exact ⟨c, rfl, H1.out⟩
end Go.Proofs.YtllhnjpnkmjopaaGreatDoor
