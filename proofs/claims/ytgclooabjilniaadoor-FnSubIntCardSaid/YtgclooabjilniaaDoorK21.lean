/-
Texts of this proof, joined: SbA AsA AsE. No condition.
-/
import Derived.Test.YtgclooabjilniaaDoorK05
import Derived.Test.YtgclooabjilniaaDoorK19
import Derived.Test.YtgclooabjilniaaDoorK20
/-
Floats: setBits64, SetInt64, SetUint64 of a new receiver of any precision, by values. No condition.
-/
namespace Go.Proofs.YtgclooabjilniaaDoor
open Go.RowKit

/-- The precision that is taken where none is asked. -/
def pD (p d : Nat) : Nat := if p = 0 then d else p
theorem pD_pos {p d : Nat} (h : 0 < d) : 0 < pD p d := by unfold pD; split <;> omega
theorem pD_le {p d q : Nat} (h1 : p ≤ q) (h2 : d ≤ q) : pD p d ≤ q := by unfold pD; split <;> omega
/-- A word with its first bit at the top. -/
theorem good_word {y p : Nat} (h1 : y < 18446744073709551616) (h2 : 9223372036854775808 ≤ y) (hp : 64 ≤ p) : Good [y] p :=
  ⟨Nat.one_pos, by simp, fun d hd => by rw [List.mem_singleton] at hd; rw [hd]; exact h1, by simpa [wv] using h2, .inl (by simpa using hp)⟩
theorem wv_one (y : Nat) : wv [y] = y := by simp [wv]
/-- What becomes of a Float that holds a value, exactly, and is rounded where its precision is less than that of the words. -/
theorem fval_trans {w : World} {B b q m : Nat} {neg : Bool} {N M : Nat} {X Y : Int} (h : FVal w B b q m (rA q m neg 0 N) 1 neg (rQ q m neg 0 N) (X + rk q N)) (hN : 0 < N) (hd : deq N X M Y) :
    FVal w B b q m (rA q m neg 0 M) 1 neg (rQ q m neg 0 M) (Y + rk q M) := by
  obtain ⟨l1, l2⟩ := rnd_deq (p := q) (m := m) neg hN hd
  obtain ⟨v', e', k1, k2⟩ := h
  obtain ⟨n1, ws', n2, n3, n4⟩ := k2 rfl
  refine ⟨v', e', by rw [← l2]; exact k1, fun _ => ⟨l1.pos n1, ws', n2, n3, n4.trans l1⟩⟩
/-- The form of a number. -/
def fO (M : Nat) : Nat := if M = 0 then 0 else 1
def sbA (q m : Nat) (neg : Bool) (M : Nat) : Int := if M = 0 then 0 else rA q m neg 0 M
set_option maxRecDepth 100000 in
set_option maxHeartbeats 1600000 in
theorem setBits64_val (b B p m f : Nat) (a e : Int) (neg neg0 : Bool) (x : Nat) (w : World) (h : FltR w b p m a f neg0 (.slice none 0 0) e) (hB : B ≤ b) (hp : p ≤ 64000000) (hm : m ≤ 5) (hx : x < 18446744073709551616) :
    Calls Tryd.prog 33 #[.pointer (some ⟨b, 0, none⟩), .bool neg, .int .u64 x] w fun e' w' => e' = .returned (.pointer (some ⟨b, 0, none⟩)) ∧
      FVal w' B b (pD p 64) m (sbA (pD p 64) m neg x) (fO x) neg (rQ (pD p 64) m neg 0 x) (0 + rk (pD p 64) x) ∧ Below B w w' := by
  obtain ⟨c0, c1, c2, c3, c4, c5, c6⟩ := h.cells
  obtain ⟨f0, f1, f2, f3, f4, f5, f6⟩ := h.free
  have hlt := h.lt
  have hq0 : 0 < pD p 64 := pD_pos (by decide)
  have hqb : pD p 64 ≤ 64000000 := pD_le hp (by decide)
  by_cases hx0 : x = 0
  · subst hx0
    have HF : Hid (∀ w', FltR w' b (pD p 64) m 0 0 neg (.slice none 0 0) e → FVal w' B b (pD p 64) m (sbA (pD p 64) m neg 0) (fO 0) neg (rQ (pD p 64) m neg 0 0) (0 + rk (pD p 64) 0)) := Lib.hid (fun w' hw => ⟨_, _, hw, fun hc => absurd hc (by decide)⟩)
    by_cases hp0 : p = 0
    · have t0 : ((p : Int) == 0) = true := by rw [hp0]; rfl
      have F := Lib.hid (HF.out _ (show FltR _ b (pD p 64) m 0 0 neg _ e by rw [show pD p 64 = 64 by unfold pD; rw [if_pos hp0]]; exact (((h.s0 64).s2 0).s4 neg).s3 0))
      have BB := Lib.hid (bset (i := 3) (u := .int .u8 (0 : Int)) (bset (i := 4) (u := .bool neg) (bset (i := 2) (u := .int .i8 0) (bset (i := 0) (u := .int .u32 (64 : Int)) (Below.refl B w) hB) hB) hB) hB)
      clear h hp0 HF
      go_enter Tryd.func33, Tryd.ntmps33
      go_wp2
      go_ret
      exact ⟨rfl, F.out, BB.out⟩
    · have t0 : ((p : Int) == 0) = false := by rw [beq_eq_false_iff_ne]; omega
      have F := Lib.hid (HF.out _ (show FltR _ b (pD p 64) m 0 0 neg _ e by rw [show pD p 64 = p by unfold pD; rw [if_neg hp0]]; exact ((h.s2 0).s4 neg).s3 0))
      have BB := Lib.hid (bset (i := 3) (u := .int .u8 (0 : Int)) (bset (i := 4) (u := .bool neg) (bset (i := 2) (u := .int .i8 0) (Below.refl B w) hB) hB) hB)
      clear h hp0 HF
      go_enter Tryd.func33, Tryd.ntmps33
      go_wp2
      go_ret
      exact ⟨rfl, F.out, BB.out⟩
  · have h0 : 0 < x := by omega
    have t1 : ((x : Int) == 0) = false := by rw [beq_eq_false_iff_ne]; omega
    have hst := shl_top h0 hx
    have hbl := bl_le64 hx
    have hbp := bl_pos h0
    have HD : Hid (∀ (Q : Nat) (w' : World), FVal w' B b Q m (rA Q m neg 0 (x * 2 ^ (64 - bl x))) 1 neg (rQ Q m neg 0 (x * 2 ^ (64 - bl x))) ((bl x : Int) - 64 * (([x * 2 ^ (64 - bl x)] : List Nat).length : Int) + rk Q (x * 2 ^ (64 - bl x))) →
        FVal w' B b Q m (sbA Q m neg x) (fO x) neg (rQ Q m neg 0 x) (0 + rk Q x)) := Lib.hid (fun Q w' hw => by
      have := fval_trans hw (Nat.mul_pos h0 (Nat.two_pow_pos _)) (show deq _ _ x 0 from ⟨0, 64 - bl x, by simp, by simp; omega⟩)
      unfold sbA fO; rw [if_neg hx0, if_neg hx0]; exact this)
    obtain ⟨l, hl⟩ : ∃ l, l = bl x := ⟨_, rfl⟩
    have HX := Lib.hid hx
    rw [← hl] at hst hbl hbp HD
    have hs64 : 64 - l < 64 := by omega
    have hP2 : (2 : Int) ^ (64 - l) = ((2 ^ (64 - l) : Nat) : Int) := by simp
    obtain ⟨s, hs⟩ : ∃ s, s = 64 - l := ⟨_, rfl⟩
    rw [← hs] at hst hs64 hP2 HD
    obtain ⟨S, hS⟩ : ∃ S, S = 2 ^ s := ⟨_, rfl⟩
    rw [← hS] at hst hP2 HD
    obtain ⟨y, hy⟩ : ∃ y, y = x * S := ⟨_, rfl⟩
    rw [← hy] at hst HD
    have hxy : (x : Int) * (S : Int) = (y : Int) := by rw [hy]; simp
    obtain ⟨hy1, hy2⟩ := hst
    have HL := Lib.hid hl
    have HSl := Lib.hid hs
    have hls : (64 : Int) - (s : Int) = (l : Int) := by omega
    have hl2 : l ≤ 64 := hbl
    have HTL : Hid (∀ w5, FltR w5 b (pD p 64) m 0 1 neg (.slice none 0 0) e → Below B w w5 → Calls Tryd.prog 52 #[.slice none 0 0, .int .u64 y] w5 fun e' w' => ∃ v, e' = .returned v ∧ IsS v ∧
        (FltR w' b (pD p 64) m 0 1 neg (.slice none 0 0) e ∧ FltR ((w'.setCell ⟨b, 5, none⟩ v).setCell ⟨b, 6, none⟩ (.int .i32 (l : Int))) b (pD p 64) m 0 1 neg v (l : Int) ∧ Own ((w'.setCell ⟨b, 5, none⟩ v).setCell ⟨b, 6, none⟩ (.int .i32 (l : Int))) B 86 v (cellsW [y]) ∧ Below B w ((w'.setCell ⟨b, 5, none⟩ v).setCell ⟨b, 6, none⟩ (.int .i32 (l : Int))))) := Lib.hid (fun w5 h5 hb5 => by
      refine (setUint64_nil y w5 (by omega) hy1).mono ?_
      rintro _ w' ⟨v, rfl, ho, hb⟩
      have hBs : B ≤ w5.heap.size := by have := h5.lt; omega
      have R5 := h5.below hb
      exact ⟨v, rfl, ho.isS, R5, (R5.s5 v).s6 _, (R5.s5 v).own (R5.own (ho.mono hBs) 5 v) 6 _, bset (bset (hb5.trans (hb.mono hBs)) hB) hB⟩)
    have HRD : Hid (∀ (w' : World) (v : Value), FltR w' b (pD p 64) m 0 1 neg v (l : Int) → Own w' B 86 v (cellsW [y]) → Calls Tryd.prog 43 #[.pointer (some ⟨b, 0, none⟩), .int .u64 0] w' fun e' w'' => e' = .returned (.tuple #[]) ∧ FVal w'' B b (pD p 64) m (sbA (pD p 64) m neg x) (fO x) neg (rQ (pD p 64) m neg 0 x) (0 + rk (pD p 64) x) ∧ Below B w' w'') := Lib.hid (fun w' v hf ho => by
      have hg := good_word (p := 64) hy1 hy2 (Nat.le_refl _)
      have hr := round_any b B (pD p 64) m 0 0 (l : Int) neg v [y] w' hf hB ho hg.2.2.1 Nat.one_pos hg.2.2.2.1 (by simp) hq0 hqb hm (by decide) (.inl rfl) (by omega) (by omega)
      rw [show ((0 : Nat) : Int) = 0 from rfl] at hr
      refine hr.mono ?_
      rintro _ w'' ⟨rfl, hR⟩
      have hQ : 0 < rQ (pD p 64) m neg 0 (wv [y]) := rQ_pos neg 0 hq0 (by rw [wv_one]; omega)
      have F := hR.val hQ
      obtain ⟨_, _, _, -, -, -, -, hb8⟩ := hR
      rw [wv_one] at F
      exact ⟨rfl, HD.out _ _ F, hb8⟩)
    have HEX : Hid (64 ≤ pD p 64 → ∀ (w' : World) (v : Value), FltR w' b (pD p 64) m 0 1 neg v (l : Int) → Own w' B 86 v (cellsW [y]) → FVal w' B b (pD p 64) m (sbA (pD p 64) m neg x) (fO x) neg (rQ (pD p 64) m neg 0 x) (0 + rk (pD p 64) x)) := Lib.hid (fun h64 w' v hf ho => by
      have F := fval_rnd hf ho (good_word hy1 hy2 h64) hq0
      rw [wv_one] at F
      exact HD.out _ _ F)
    clear hl hs hS hy hx hbl HD hx0
    by_cases hp0 : p = 0
    · have t0 : ((p : Int) == 0) = true := by rw [hp0]; rfl
      have HP : Hid (pD p 64 = 64) := Lib.hid (by unfold pD; rw [if_pos hp0])
      have R4 := Lib.hid ((((h.s0 64).s2 0).s4 neg).s3 1)
      have B4 := Lib.hid (bset (i := 3) (u := .int .u8 (1 : Int)) (bset (i := 4) (u := .bool neg) (bset (i := 2) (u := .int .i8 0) (bset (i := 0) (u := .int .u32 (64 : Int)) (Below.refl B w) hB) hB) hB) hB)
      rw [HP.out] at HTL HEX ⊢
      clear h h0 hp0 HRD hq0 hqb
      go_enter Tryd.func33, Tryd.ntmps33
      go_wp2_with fail
      refine (lz64 x _ HX.out).mono ?_
      rintro _ _ ⟨rfl, rfl⟩
      rw [← HL.out, ← HSl.out]
      go_wp2_with fail
      refine (HTL.out _ R4.out B4.out).mono ?_
      rintro _ w5 ⟨v, rfl, hSv, R5, F, O, BF⟩
      obtain ⟨d0, d1, d2, d3, d4, d5, d6⟩ := R5.cells
      obtain ⟨g0, g1, g2, g3, g4, g5, g6⟩ := R5.free
      have d0' : w5.cell? ⟨b, 0, none⟩ = some (.int .u32 64) := d0
      have HV := Lib.hid (HEX.out (Nat.le_refl _) _ _ F O)
      have HB := Lib.hid BF
      clear c0 c1 c2 c3 c4 c5 c6 f0 f1 f2 f3 f4 f5 f6 d0 R5 F O BF
      go_wp2
      go_ret
      exact ⟨rfl, HV.out, HB.out⟩
    · have t0 : ((p : Int) == 0) = false := by rw [beq_eq_false_iff_ne]; omega
      have HP : Hid (pD p 64 = p) := Lib.hid (by unfold pD; rw [if_neg hp0])
      have R4 := Lib.hid (((h.s2 0).s4 neg).s3 1)
      have B4 := Lib.hid (bset (i := 3) (u := .int .u8 (1 : Int)) (bset (i := 4) (u := .bool neg) (bset (i := 2) (u := .int .i8 0) (Below.refl B w) hB) hB) hB)
      rw [HP.out] at HTL HEX HRD ⊢
      clear h h0 hp0 hq0 hqb
      by_cases hp64 : p < 64
      · have t2 : decide (p < 64) = true := decide_eq_true hp64
        have t2' : decide ((p : Int) < 64) = true := decide_eq_true (by omega)
        clear hp64 HEX
        go_enter Tryd.func33, Tryd.ntmps33
        go_wp2_with fail
        refine (lz64 x _ HX.out).mono ?_
        rintro _ _ ⟨rfl, rfl⟩
        rw [← HL.out, ← HSl.out]
        go_wp2_with fail
        refine (HTL.out _ R4.out B4.out).mono ?_
        rintro _ w5 ⟨v, rfl, hSv, R5, F, O, BF⟩
        obtain ⟨d0, d1, d2, d3, d4, d5, d6⟩ := R5.cells
        obtain ⟨g0, g1, g2, g3, g4, g5, g6⟩ := R5.free
        have HV := Lib.hid (HRD.out _ _ F O)
        have HB := Lib.hid BF
        clear c0 c1 c2 c3 c4 c5 c6 f0 f1 f2 f3 f4 f5 f6 R5 F O BF
        go_wp2_with fail
        refine HV.out.mono ?_
        rintro _ w8 ⟨rfl, hv8, hb8⟩
        have H8 := Lib.hid hv8
        have B8 := Lib.hid (HB.out.trans hb8)
        clear hv8 hb8
        go_wp2
        go_ret
        exact ⟨rfl, H8.out, B8.out⟩
      · have t2 : decide (p < 64) = false := decide_eq_false hp64
        have t2' : decide ((p : Int) < 64) = false := decide_eq_false (by omega)
        have H64 := Lib.hid (show 64 ≤ p by omega)
        clear hp64 HRD
        go_enter Tryd.func33, Tryd.ntmps33
        go_wp2_with fail
        refine (lz64 x _ HX.out).mono ?_
        rintro _ _ ⟨rfl, rfl⟩
        rw [← HL.out, ← HSl.out]
        go_wp2_with fail
        refine (HTL.out _ R4.out B4.out).mono ?_
        rintro _ w5 ⟨v, rfl, hSv, R5, F, O, BF⟩
        obtain ⟨d0, d1, d2, d3, d4, d5, d6⟩ := R5.cells
        obtain ⟨g0, g1, g2, g3, g4, g5, g6⟩ := R5.free
        have HV := Lib.hid (HEX.out H64.out _ _ F O)
        have HB := Lib.hid BF
        clear c0 c1 c2 c3 c4 c5 c6 f0 f1 f2 f3 f4 f5 f6 R5 F O BF
        go_wp2
        go_ret
        exact ⟨rfl, HV.out, HB.out⟩
set_option maxRecDepth 100000 in
theorem setInt64_val (b B p m f : Nat) (a e : Int) (neg0 : Bool) (x : Int) (w : World) (h : FltR w b p m a f neg0 (.slice none 0 0) e) (hB : B ≤ b) (hp : p ≤ 64000000) (hm : m ≤ 5) (hx1 : -9223372036854775808 ≤ x) (hx2 : x ≤ 9223372036854775807) :
    Calls Tryd.prog 14 #[.pointer (some ⟨b, 0, none⟩), .int .i64 x] w fun e' w' => e' = .returned (.pointer (some ⟨b, 0, none⟩)) ∧
      FVal w' B b (pD p 64) m (sbA (pD p 64) m (decide (x < 0)) x.natAbs) (fO x.natAbs) (decide (x < 0)) (rQ (pD p 64) m (decide (x < 0)) 0 x.natAbs) (0 + rk (pD p 64) x.natAbs) ∧ Below B w w' := by
  have H := Lib.hid (setBits64_val b B p m f a e (decide (x < 0)) neg0 x.natAbs w h hB hp hm (by omega))
  obtain ⟨n, hn⟩ : ∃ n, n = x.natAbs := ⟨_, rfl⟩
  rw [← hn] at H ⊢
  by_cases hx : x < 0
  · have t : decide (x < 0) = true := decide_eq_true hx
    rw [t] at H ⊢
    have hxx : x = -(n : Int) := by omega
    have hn0 : 0 < n := by omega
    subst hxx
    clear h hn hx
    by_cases hm2 : n = 9223372036854775808
    · subst hm2
      go_enter Tryd.func14, Tryd.ntmps14
      go_wp2_with fail
      rw [show IntKind.u64.wrap (wrap64 9223372036854775808) = ((9223372036854775808 : Nat) : Int) by decide +kernel]
      refine H.out.mono ?_
      rintro _ w1 ⟨rfl, h1, h2⟩
      have H1 := Lib.hid h1
      have H2 := Lib.hid h2
      clear h1 h2
      go_wp2
      go_ret
      exact ⟨rfl, H1.out, H2.out⟩
    · have hn2 : n ≤ 9223372036854775807 := by omega
      clear hm2
      go_enter Tryd.func14, Tryd.ntmps14
      go_wp2_with fail
      refine H.out.mono ?_
      rintro _ w1 ⟨rfl, h1, h2⟩
      have H1 := Lib.hid h1
      have H2 := Lib.hid h2
      clear h1 h2
      go_wp2
      go_ret
      exact ⟨rfl, H1.out, H2.out⟩
  · have t : decide (x < 0) = false := decide_eq_false hx
    rw [t] at H ⊢
    have e1 : x = (n : Int) := by omega
    subst e1
    clear h hn hx
    go_enter Tryd.func14, Tryd.ntmps14
    go_wp2_with fail
    refine H.out.mono ?_
    rintro _ w1 ⟨rfl, h1, h2⟩
    have H1 := Lib.hid h1
    have H2 := Lib.hid h2
    clear h1 h2
    go_wp2
    go_ret
    exact ⟨rfl, H1.out, H2.out⟩
end Go.Proofs.YtgclooabjilniaaDoor

/-
Sums and differences of dyadic values. No condition.
-/
namespace Go.Proofs.YtgclooabjilniaaDoor
open Go.RowKit

theorem deq_lift {X M : Nat} {ex E : Int} (h : deq X ex M E) {e : Int} (h1 : e ≤ ex) (h2 : e ≤ E) : X * 2 ^ (ex - e).toNat = M * 2 ^ (E - e).toNat := by
  obtain ⟨i, j, h3, h4⟩ := h
  by_cases hi : i ≤ (ex - e).toNat
  · rw [show (ex - e).toNat = i + ((ex - e).toNat - i) by omega, Nat.pow_add, ← Nat.mul_assoc, h3, Nat.mul_assoc, ← Nat.pow_add]
    congr 2; omega
  · have hp : 0 < 2 ^ (i - (ex - e).toNat) := Nat.two_pow_pos _
    apply Nat.eq_of_mul_eq_mul_right hp
    rw [Nat.mul_assoc, ← Nat.pow_add, show (ex - e).toNat + (i - (ex - e).toNat) = i by omega, h3, Nat.mul_assoc, ← Nat.pow_add]
    congr 2; omega
/-- A magnitude brought to a lower exponent. -/
def lo (M : Nat) (E e : Int) : Nat := M * 2 ^ (E - e).toNat
theorem lo_lo {M : Nat} {E e t : Int} (h1 : e ≤ E) (h2 : t ≤ e) : lo M E e * 2 ^ (e - t).toNat = lo M E t := by
  unfold lo; rw [Nat.mul_assoc, ← Nat.pow_add]; congr 2; omega
theorem deq_lo {X M : Nat} {ex E : Int} (h : deq X ex M E) {e : Int} (h1 : e ≤ ex) (h2 : e ≤ E) : lo X ex e = lo M E e := deq_lift h h1 h2
theorem lo_self (M : Nat) (E : Int) : lo M E E = M := by unfold lo; simp
theorem lo_pos {M : Nat} {E e : Int} (h : 0 < M) : 0 < lo M E e := Nat.mul_pos h (Nat.two_pow_pos _)
theorem bl_lo (M : Nat) (E e : Int) : bl (lo M E e) ≤ bl M + (E - e).toNat := by
  refine bl_le ?_
  rw [Nat.pow_add]; exact Nat.mul_lt_mul_of_pos_right (lt_bl M) (Nat.two_pow_pos _)
/-- The sum at the lower exponent. -/
def suM (M : Nat) (E : Int) (N : Nat) (F : Int) : Nat := lo M E (min E F) + lo N F (min E F)
def diM (M : Nat) (E : Int) (N : Nat) (F : Int) : Nat := lo M E (min E F) - lo N F (min E F)
theorem deq_of_lo {S T : Nat} {e g t : Int} (h1 : t ≤ e) (h2 : t ≤ g) (h : S * 2 ^ (e - t).toNat = T * 2 ^ (g - t).toNat) : deq S e T g := ⟨(e - t).toNat, (g - t).toNat, h, by omega⟩
theorem deq_su {X Y M N : Nat} {ex ey E F : Int} (h1 : deq X ex M E) (h2 : deq Y ey N F) : deq (suM X ex Y ey) (min ex ey) (suM M E N F) (min E F) := by
  refine deq_of_lo (t := min (min ex ey) (min E F)) (by omega) (by omega) ?_
  unfold suM
  rw [Nat.add_mul, Nat.add_mul, lo_lo (by omega) (by omega), lo_lo (by omega) (by omega), lo_lo (by omega) (by omega), lo_lo (by omega) (by omega), deq_lo h1 (by omega) (by omega), deq_lo h2 (by omega) (by omega)]
theorem deq_di {X Y M N : Nat} {ex ey E F : Int} (h1 : deq X ex M E) (h2 : deq Y ey N F) : deq (diM X ex Y ey) (min ex ey) (diM M E N F) (min E F) := by
  refine deq_of_lo (t := min (min ex ey) (min E F)) (by omega) (by omega) ?_
  unfold diM
  rw [Nat.sub_mul, Nat.sub_mul, lo_lo (by omega) (by omega), lo_lo (by omega) (by omega), lo_lo (by omega) (by omega), lo_lo (by omega) (by omega), deq_lo h1 (by omega) (by omega), deq_lo h2 (by omega) (by omega)]
theorem deq_le {X Y M N : Nat} {ex ey E F : Int} (h1 : deq X ex M E) (h2 : deq Y ey N F) : lo Y ey (min ex ey) ≤ lo X ex (min ex ey) ↔ lo N F (min E F) ≤ lo M E (min E F) := by
  have hA : 0 < 2 ^ (min ex ey - min (min ex ey) (min E F)).toNat := Nat.two_pow_pos _
  have hB : 0 < 2 ^ (min E F - min (min ex ey) (min E F)).toNat := Nat.two_pow_pos _
  have e1 : lo Y ey (min ex ey) * 2 ^ (min ex ey - min (min ex ey) (min E F)).toNat = lo N F (min E F) * 2 ^ (min E F - min (min ex ey) (min E F)).toNat := by
    rw [lo_lo (by omega) (by omega), lo_lo (by omega) (by omega), deq_lo h2 (by omega) (by omega)]
  have e2 : lo X ex (min ex ey) * 2 ^ (min ex ey - min (min ex ey) (min E F)).toNat = lo M E (min E F) * 2 ^ (min E F - min (min ex ey) (min E F)).toNat := by
    rw [lo_lo (by omega) (by omega), lo_lo (by omega) (by omega), deq_lo h1 (by omega) (by omega)]
  rw [← Nat.mul_le_mul_right_iff hA, e1, e2, Nat.mul_le_mul_right_iff hB]
theorem suM_comm (M : Nat) (E : Int) (N : Nat) (F : Int) : suM M E N F = suM N F M E := by
  unfold suM; rw [Nat.add_comm, show min E F = min F E by omega]
/-- A Float's mantissa is a number without a word 0 at its top. -/
theorem Good.wds {ws : List Nat} {p : Nat} (h : Good ws p) : ws = wds (wv ws) := by
  have h1 := h.bl
  obtain ⟨h2, -, h3, h4, -⟩ := h
  have hp : 0 < wv ws := Nat.lt_of_lt_of_le (Nat.two_pow_pos _) h4
  exact wds_of h3 (by rw [nw_bl hp, h1]; omega)
theorem Good.posv {ws : List Nat} {p : Nat} (h : Good ws p) : 0 < wv ws := Nat.lt_of_lt_of_le (Nat.two_pow_pos _) h.2.2.2.1
end Go.Proofs.YtgclooabjilniaaDoor

/-
Floats: what uadd and usub need. No condition.
-/
namespace Go.Proofs.YtgclooabjilniaaDoor
open Go.RowKit

theorem wrap_i64_id {a : Int} (h1 : -9223372036854775808 ≤ a) (h2 : a ≤ 9223372036854775807) : IntKind.i64.wrap a = a := by rw [IntKind.wrap_i64]; omega
theorem bl_diM (M : Nat) (E : Int) (N : Nat) (F : Int) : bl (diM M E N F) ≤ bl M + (E - min E F).toNat := Nat.le_trans (bl_mono (Nat.sub_le _ _)) (bl_lo _ _ _)
theorem bl_suM (M : Nat) (E : Int) (N : Nat) (F : Int) : bl (suM M E N F) ≤ max (bl M + (E - min E F).toNat) (bl N + (F - min E F).toNat) + 1 := by
  refine bl_le ?_
  unfold suM
  have h1 := lt_bl (lo M E (min E F))
  have h2 := lt_bl (lo N F (min E F))
  have h3 := bl_lo M E (min E F)
  have h4 := bl_lo N F (min E F)
  have h5 := Nat.pow_le_pow_right (show 0 < 2 by decide) (show bl (lo M E (min E F)) ≤ max (bl M + (E - min E F).toNat) (bl N + (F - min E F).toNat) by omega)
  have h6 := Nat.pow_le_pow_right (show 0 < 2 by decide) (show bl (lo N F (min E F)) ≤ max (bl M + (E - min E F).toNat) (bl N + (F - min E F).toNat) by omega)
  rw [Nat.pow_succ]; omega
theorem nw_of_bl {n k : Nat} (h : bl n ≤ 64 * k) : nw n ≤ k := by
  rcases Nat.eq_zero_or_pos n with h0 | h0
  · rw [h0, nw_zero]; exact Nat.zero_le _
  · rw [nw_bl h0]; omega
end Go.Proofs.YtgclooabjilniaaDoor
