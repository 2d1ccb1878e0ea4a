/-
Texts of this proof, joined: RnL TzA TzB VvL. No condition.
-/
import Derived.Test.YtgclooabjilniaaGreatDoorK08
import Derived.Test.YtgclooabjilniaaGreatDoorK13
import Derived.Test.YtgclooabjilniaaGreatDoorK15
import Derived.Lib.TrailingZeros
import Derived.Shelf.Spec.TrailingZeros
/-
Floats: round, setExpAndRound, any mode; a Float's value. No condition.
-/
namespace Go.Proofs.YtgclooabjilniaaGreatDoor
open Go.RowKit

theorem rnd_fits {ws : List Nat} {p m : Nat} (neg : Bool) (h : Good ws p) (X : Int) : rA p m neg 0 (wv ws) = 0 ∧ deq (rQ p m neg 0 (wv ws)) (X + rk p (wv ws)) (wv ws) X := by
  have hb := h.bl
  obtain ⟨-, -, -, -, hf⟩ := h
  rcases hf with hf | ⟨hf1, hf2, -⟩
  · obtain ⟨k0, q0, a0⟩ := rQ_fits (p := p) (m := m) (M := wv ws) neg (by omega)
    rw [k0, q0, a0]
    exact ⟨rfl, 0, 0, rfl, by omega⟩
  · have hk : rk p (wv ws) = 64 * ws.length - p := by unfold rk; rw [hb]
    have hl : rL p 0 (wv ws) = 0 := by unfold rL; rw [hk, hf2]; exact lef_exact _
    have hq : rQ p m neg 0 (wv ws) = wv ws / 2 ^ (64 * ws.length - p) := by unfold rQ rU; rw [hl, awy_zero, hk]; simp
    refine ⟨by unfold rA; rw [if_pos hl], ?_⟩
    rw [hq, hk]
    refine ⟨64 * ws.length - p, 0, ?_, by omega⟩
    rw [Nat.pow_zero, Nat.mul_one]
    exact Nat.div_mul_cancel (Nat.dvd_of_mod_eq_zero hf2)
set_option maxRecDepth 100000 in
theorem round_any (b B p m s : Nat) (a e : Int) (neg : Bool) (v : Value) (ws : List Nat) (w : World) (h : FltR w b p m a 1 neg v e) (hB : B ≤ b) (ho : Own w B 128 v (cellsW ws)) (hd : ∀ d ∈ ws, d < 18446744073709551616)
    (h0 : 0 < ws.length) (htop : 2 ^ (64 * ws.length - 1) ≤ wv ws) (hl : ws.length ≤ 1000000) (hp0 : 0 < p) (hp : p ≤ 64000000) (hm : m ≤ 5) (hs : s ≤ 1) (hsp : s = 0 ∨ p < 64 * ws.length) (he1 : -2147483648 ≤ e) (he2 : e < 2147483647) :
    Calls Tryz.prog 88 #[.pointer (some ⟨b, 0, none⟩), .int .u64 s] w fun e' w' => e' = .returned (.tuple #[]) ∧ RndP B b p m neg s (wv ws) (e - 64 * (ws.length : Int)) w w' := by
  by_cases hpL : p < 64 * ws.length
  · exact round_cut b B p m s a e neg v ws w h hB ho hd htop hpL hl hp0 hp hm hs he1 he2
  · have hs0 : s = 0 := by omega
    subst hs0
    have hf : Fits ws p := .inl (by omega)
    have hg : Good ws p := ⟨h0, hl, hd, htop, hf⟩
    have hc := round_exact b B p m a e neg v ws w h hB ho hd hf h0 hl hp0 hp
    refine Calls.mono hc ?_
    rintro _ w' ⟨rfl, r1, r2, r3⟩
    obtain ⟨k1, k2⟩ := rnd_fits (m := m) neg hg (e - 64 * (ws.length : Int))
    exact ⟨rfl, v, ws, e, by rw [k1]; exact r1, r2, hg, k2.symm, r3⟩
set_option maxRecDepth 100000 in
set_option maxHeartbeats 800000 in
theorem setExp_any (b B p m f s : Nat) (a e x : Int) (neg : Bool) (v : Value) (ws : List Nat) (w : World) (h : FltR w b p m a f neg v e) (hB : B ≤ b) (ho : Own w B 128 v (cellsW ws)) (hd : ∀ d ∈ ws, d < 18446744073709551616)
    (h0 : 0 < ws.length) (htop : 2 ^ (64 * ws.length - 1) ≤ wv ws) (hl : ws.length ≤ 1000000) (hp0 : 0 < p) (hp : p ≤ 64000000) (hm : m ≤ 5) (hs : s ≤ 1) (hsp : s = 0 ∨ p < 64 * ws.length) (hx1 : -2147483648 ≤ x) (hx2 : x < 2147483647) :
    Calls Tryz.prog 91 #[.pointer (some ⟨b, 0, none⟩), .int .i64 x, .int .u64 s] w fun e' w' => e' = .returned (.tuple #[]) ∧ RndP B b p m neg s (wv ws) (x - 64 * (ws.length : Int)) w w' := by
  obtain ⟨c0, c1, c2, c3, c4, c5, c6⟩ := h.cells
  obtain ⟨f0, f1, f2, f3, f4, f5, f6⟩ := h.free
  have hS := ho.isS
  have R2 := Lib.hid ((h.s3 1).s6 x)
  have O2 := Lib.hid ((h.s3 1).own (h.own ho 3 (.int .u8 (1 : Int))) 6 (.int .i32 x))
  have B2 := Lib.hid (bset (i := 6) (u := .int .i32 x) (bset (i := 3) (u := .int .u8 (1 : Int)) (Below.refl B w) hB) hB)
  have HD := Lib.hid hd
  have HT := Lib.hid htop
  have HS := Lib.hid hsp
  clear h ho hd htop hsp
  go_enter Tryz.func91, Tryz.ntmps91
  go_wp2_with fail
  refine (round_any b B p m s a x neg v ws _ R2.out hB O2.out HD.out h0 HT.out hl hp0 hp hm hs HS.out hx1 hx2).mono ?_
  rintro _ w1 ⟨rfl, v1, ws1, e1, r1, r2, r3, r4, r5⟩
  have Q : Hid (RndP B b p m neg s (wv ws) (x - 64 * (ws.length : Int)) w w1) := Lib.hid ⟨v1, ws1, e1, r1, r2, r3, r4, B2.out.trans r5⟩
  clear r1 r2 r3 r4 r5
  go_wp2
  go_end0
  exact ⟨rfl, Q.out⟩
/-- A Float with its value: of a finite one M times 2 to X. -/
def FVal (w : World) (B b p m : Nat) (a : Int) (f : Nat) (neg : Bool) (M : Nat) (X : Int) : Prop :=
  ∃ v e, FltR w b p m a f neg v e ∧ (f = 1 → 0 < M ∧ ∃ ws, Own w B 128 v (cellsW ws) ∧ Good ws p ∧ deq (wv ws) (e - 64 * (ws.length : Int)) M X)
theorem FVal.below {w w' : World} {B b p m f : Nat} {a : Int} {neg : Bool} {M : Nat} {X : Int} (h : FVal w B b p m a f neg M X) (hb : Below w.heap.size w w') : FVal w' B b p m a f neg M X := by
  obtain ⟨v, e, h1, h3⟩ := h
  refine ⟨v, e, h1.below hb, fun hf => ?_⟩
  obtain ⟨h4, ws, h5, h6, h7⟩ := h3 hf
  exact ⟨h4, ws, h5.below hb, h6, h7⟩
theorem topN_good {M p : Nat} (h : 0 < M) (hM : bl M ≤ p) (hl : nw M ≤ 1000000) : Good (topN M) p := by
  have hb := nw_bl h
  have hbp := bl_pos h
  refine ⟨by rw [topN_length]; exact nw_pos h, by rw [topN_length]; exact hl, wdsN_lt, ?_, topN_fits h hM⟩
  rw [topN_length, topN_wv h, show 64 * nw M - 1 = (bl M - 1) + (64 * nw M - bl M) by omega, Nat.pow_add]
  exact Nat.mul_le_mul_right _ (bl_ge h)
/-- What impl.float gives. -/
theorem FloatAt.val {w : World} {B g p m f M : Nat} {neg : Bool} {e : Int} (h : FloatAt w B g p m f neg M e) (h1 : f = 1 → 0 < M ∧ bl M ≤ p ∧ nw M ≤ 1000000) : FVal w B g p m 0 f neg M e := by
  obtain ⟨-, r, x, h2, h3⟩ := h
  refine ⟨r, x, h2, fun hf => ?_⟩
  obtain ⟨k1, k2, k3⟩ := h1 hf
  obtain ⟨k4, k5⟩ := h3 hf
  have hb := nw_bl k1
  refine ⟨k1, topN M, k5, topN_good k1 k2 k3, ?_⟩
  rw [topN_wv k1, topN_length, k4]
  refine ⟨0, 64 * nw M - bl M, by simp, ?_⟩
  omega
/-- What round gives is a Float's value. -/
theorem RndP.val {B b p m s N : Nat} {neg : Bool} {X : Int} {w w' : World} (h : RndP B b p m neg s N X w w') (hN : 0 < rQ p m neg s N) : FVal w' B b p m (rA p m neg s N) 1 neg (rQ p m neg s N) (X + rk p N) := by
  obtain ⟨v, ws, e, h1, h2, h3, h4, -⟩ := h
  exact ⟨v, e, h1, fun _ => ⟨hN, ws, h2, h3, h4⟩⟩
end Go.Proofs.YtgclooabjilniaaGreatDoor

/-
bits.TrailingZeros by its table; a Float's least precision. No condition.
-/
namespace Go.Proofs.YtgclooabjilniaaGreatDoor
open Go.RowKit

/-- The table of bits.TrailingZeros64 lies in its variable. -/
def TabW (w : World) : Prop := TabAt 5 Lib.deBruijn64tab w
theorem TabW.below {w w' : World} (h : TabW w) (hb : Below w.heap.size w w') : TabW w' := fun j hj => by
  have h1 := h j hj
  have hlt := World.block_lt_of_cell? w _ h1
  rw [hb.cell (p := ⟨5, j, none⟩) hlt]; exact h1
theorem TabW.drewN {w : World} (h : TabW w) (n : Nat) : TabW (w.drewN n) := h
theorem ctz_tz {x : Nat} (h0 : 0 < x) (hx : x < 18446744073709551616) : Lib.ctz 64 x = tz x := by
  obtain ⟨m, hm, -⟩ := Lib.ctzFrom_spec 64 x h0 (by simpa using hx)
  have e : Lib.ctz 64 x = Lib.ctzFrom 64 x := by simp [Lib.ctz]; omega
  rw [e]
  exact ((od_of (n := x) (o := 2 * m + 1) (t := Lib.ctzFrom 64 x) (by rw [Nat.mul_comm]; exact hm) (by omega)).2).symm
set_option maxRecDepth 100000 in
theorem tz64_any (x : Nat) (w : World) (h0 : 0 < x) (hx : x < 18446744073709551616) (hT : TabW w) :
    Calls Tryz.prog 165 #[.int .u64 x] w fun e w' => e = .returned (.int .i64 (tz x : Nat)) ∧ w = w' := by
  obtain ⟨hlow, hk⟩ := Lib.lowest_bit 64 x (by omega) (by simpa using hx)
  obtain ⟨hi, htab⟩ := Lib.deBruijn64_at _ hk
  have hcell := hT _ hi
  rw [htab, ctz_tz h0 hx] at hcell
  have key := tz64_key x _ hx (by omega) hlow
  rw [ctz_tz h0 hx] at key hi
  rw [ctz_tz h0 hx] at hk
  obtain ⟨i, hii⟩ : ∃ i, i = 2 ^ tz x * 285870213051353865 % 18446744073709551616 / 288230376151711744 := ⟨_, rfl⟩
  rw [← hii] at key hi hcell
  have t0 : ((x : Int) == 0) = false := by rw [beq_eq_false_iff_ne]; omega
  obtain ⟨k, hkk⟩ : ∃ k, k = tz x := ⟨_, rfl⟩
  rw [← hkk] at hcell hk ⊢
  clear hlow htab hii hkk hT
  go_enter Tryz.func165, Tryz.ntmps165
  go_wp2_with (simp only [key])
  go_ret
  exact ⟨rfl, rfl⟩
set_option maxRecDepth 100000 in
theorem tzc_any (x : Nat) (w : World) (h0 : 0 < x) (hx : x < 18446744073709551616) (hT : TabW w) :
    Calls Tryz.prog 136 #[.int .u64 x] w fun e w' => e = .returned (.int .i64 (tz x : Nat)) ∧ w = w' := by
  have H := Lib.hid (tz64_any x w h0 hx hT)
  have hk : tz x < 64 := by have := tz_le h0; have := bl_le64 hx; omega
  obtain ⟨k, hkk⟩ : ∃ k, k = tz x := ⟨_, rfl⟩
  rw [← hkk] at hk H ⊢
  clear hkk h0 hT
  go_enter Tryz.func136, Tryz.ntmps136
  go_wp2_with fail
  refine H.out.mono ?_
  rintro _ _ ⟨rfl, rfl⟩
  go_wp2
  go_ret
  exact ⟨rfl, rfl⟩
/-- Words that are 0 below place k. -/
theorem tz_words {N k : Nat} (h : ∀ j, j < k → wdg N j = 0) (hk : wdg N k ≠ 0) : tz N = 64 * k + tz (wdg N k) := by
  have h1 := (wlow_zero (n := N) k).2 h
  have hd := Nat.pos_of_ne_zero hk
  have hN : N = 18446744073709551616 ^ k * (N / 18446744073709551616 ^ k) := by have := Nat.div_add_mod N (18446744073709551616 ^ k); omega
  obtain ⟨o1, o2⟩ := od_tz hd
  have hq : N / 18446744073709551616 ^ k = 18446744073709551616 * (N / 18446744073709551616 ^ k / 18446744073709551616) + wdg N k := by
    unfold wdg; exact (Nat.div_add_mod _ _).symm
  have ht : tz (wdg N k) < 64 := by have := tz_le hd; have := bl_le64 (wdg_lt N k); omega
  obtain ⟨Y, hY⟩ : ∃ Y, Y = N / 18446744073709551616 ^ k / 18446744073709551616 := ⟨_, rfl⟩
  rw [← hY] at hq
  have e : (18446744073709551616 : Nat) = 2 ^ (63 - tz (wdg N k)) * 2 * 2 ^ tz (wdg N k) := by
    rw [← Nat.pow_succ, ← Nat.pow_add, show 63 - tz (wdg N k) + 1 + tz (wdg N k) = 64 by omega]
  have h2 : N / 18446744073709551616 ^ k = (2 * (2 ^ (63 - tz (wdg N k)) * Y) + od (wdg N k)) * 2 ^ tz (wdg N k) := by
    rw [hq, Nat.add_mul, ← o1]
    congr 1
    conv => lhs; rw [e]
    simp only [Nat.mul_comm, Nat.mul_left_comm]
  refine (od_of (n := N) (o := 2 * (2 ^ (63 - tz (wdg N k)) * Y) + od (wdg N k)) (t := 64 * k + tz (wdg N k)) ?_ (by omega)).2
  conv => lhs; rw [hN, h2, w_two]
  rw [Nat.mul_comm (2 ^ (64 * k)), Nat.mul_assoc, ← Nat.pow_add, Nat.add_comm (tz _)]
set_option maxRecDepth 100000 in
set_option maxHeartbeats 800000 in
theorem tzb_any (v : Value) (ws : List Nat) (w : World) (hv : RW w v ws) (h0 : 0 < wv ws) (hl : ws.length ≤ 1000000000) (hT : TabW w) :
    Calls Tryz.prog 95 #[v] w fun e w' => e = .returned (.int .u64 (tz (wv ws) : Nat)) ∧ w = w' := by
  have hS := hv.isS
  have hL : sLen v = ws.length := hv.len
  have hget : ∀ j, ws.getD j 0 = wdg (wv ws) j := fun j => by rw [wv_dig hv.lt]
  have hne : 0 < ws.length := by
    rcases Nat.eq_zero_or_pos ws.length with h | h
    · have := List.eq_nil_of_length_eq_zero h; subst this; simp [wv] at h0
    · exact h
  obtain ⟨L, hLw⟩ : ∃ L, L = ws.length := ⟨_, rfl⟩
  rw [← hLw] at hL hl hne
  have hNl : wv ws < 18446744073709551616 ^ L := by rw [hLw]; exact wv_lt hv.lt
  obtain ⟨N, hN⟩ : ∃ N, N = wv ws := ⟨_, rfl⟩
  rw [← hN] at h0 hget hNl ⊢
  have t0 : ((L : Int) == 0) = false := by rw [beq_eq_false_iff_ne]; omega
  have HV := Lib.hid hv
  have HG := Lib.hid hget
  have HL := Lib.hid hLw
  have HT := Lib.hid hT
  have HNL := Lib.hid hNl
  clear hv hget hLw hT hN hNl
  go_enter Tryz.func95, Tryz.ntmps95
  go_wp2
  go_loopw [3] (fun i wr => ∃ k : Nat, k < L ∧ (∀ j, j < k → wdg N j = 0) ∧ i = .int .u64 k ∧ w = wr) (fun i _ => L - (intOf i).toNat)
  case atStart => exact ⟨0, hne, fun j hj => absurd hj (by omega), rfl, rfl⟩
  case round =>
    obtain ⟨k, hk, hz, rfl, rfl⟩ := hrel
    have c := HV.out.cell k (by rw [← HL.out]; exact hk)
    rw [HG.out] at c
    have HZ := Lib.hid hz
    have hdl := wdg_lt N k
    obtain ⟨d, hd⟩ : ∃ d, d = wdg N k := ⟨_, rfl⟩
    rw [← hd] at c hdl
    have HD := Lib.hid hd
    clear hz hd
    by_cases hd0 : d = 0
    · subst hd0
      have hk1 : k + 1 < L := by
        refine Nat.lt_of_not_le fun hc => ?_
        have : N % 18446744073709551616 ^ L = 0 := (wlow_zero (n := N) L).2 fun j hj => by
          by_cases hjk : j < k
          · exact HZ.out j hjk
          · rw [show j = k by omega]; exact HD.out.symm
        rw [Nat.mod_eq_of_lt HNL.out] at this
        omega
      go_wp2
      refine ⟨⟨k + 1, hk1, fun j hj => ?_, by simp, trivial⟩, by simp [intOf]; omega⟩
      by_cases hjk : j < k
      · exact HZ.out j hjk
      · rw [show j = k by omega]; exact HD.out.symm
    · have t1 : ((d : Int) == 0) = false := by rw [beq_eq_false_iff_ne]; omega
      have hdp : 0 < d := by omega
      have ht := tz_words HZ.out (by rw [← HD.out]; exact hd0)
      rw [← HD.out] at ht
      have htl : tz d < 64 := by have := tz_le hdp; have := bl_le64 hdl; omega
      have HTD := Lib.hid ht
      clear ht hd0
      go_wp2_with fail
      refine (tzc_any d w hdp hdl HT.out).mono ?_
      rintro _ _ ⟨rfl, rfl⟩
      obtain ⟨q, hq⟩ : ∃ q, q = tz d := ⟨_, rfl⟩
      rw [← hq] at htl HTD ⊢
      clear hq
      go_wp2
      go_ret
      rw [HTD.out]
      exact ⟨ret_u64 (by push_cast; omega), rfl⟩
end Go.Proofs.YtgclooabjilniaaGreatDoor

/-
A number shifted to the right into a new slice. No condition.
-/
namespace Go.Proofs.YtgclooabjilniaaGreatDoor
open Go.RowKit

theorem RW.dropW {w : World} {v : Value} {ws : List Nat} {k : Nat} (h : RW w v ws) (hk : k ≤ ws.length) : RW w (subS v k ws.length) (ws.drop k) := by
  refine ⟨?_, fun d hd => h.lt d (List.mem_of_mem_drop hd)⟩
  have := h.ri.sub (l := k) (n := ws.length) hk (by rw [ints_length]; exact Nat.le_refl _)
  rw [List.take_of_length_le (by rw [ints_length]; exact Nat.le_refl _)] at this
  unfold ints at this ⊢
  rw [List.map_drop]
  exact this
theorem cellsW_zeros (n : Nat) : List.replicate n (Value.int .u64 0) = cellsW (List.replicate n 0) := by
  unfold cellsW; rw [List.map_replicate]; rfl
set_option maxRecDepth 100000 in
set_option maxHeartbeats 1600000 in
theorem rsh_nil (v : Value) (ws : List Nat) (s : Nat) (w : World) (hv : RW w v ws) (hl : ws.length ≤ 1000000) (hs0 : 0 < s) (hs : s < 64 * ws.length) :
    Calls Tryz.prog 138 #[.slice none 0 0, v, .int .u64 s] w fun e w' => ∃ r, e = .returned r ∧ Own w' w.heap.size 128 r (cellsW (wds (wv ws / 2 ^ s))) ∧ Below w.heap.size w w' := by
  have hS := hv.isS
  have hLv := hv.len
  obtain ⟨L, hL⟩ : ∃ L, L = ws.length := ⟨_, rfl⟩
  rw [← hL] at hLv hl hs
  have t0 : ((s : Int) == 0) = false := by rw [beq_eq_false_iff_ne]; omega
  obtain ⟨n, hn⟩ : ∃ n, n = L - s / 64 := ⟨_, rfl⟩
  obtain ⟨k, hk⟩ : ∃ k, k = s / 64 := ⟨_, rfl⟩
  obtain ⟨t, ht⟩ : ∃ t, t = s % 64 := ⟨_, rfl⟩
  have hn1 : 0 < n := by omega
  have hnl : n ≤ 1000000 := by omega
  have ek : (s : Int) / 64 = (k : Int) := by omega
  have et : (s : Int) % 64 = (t : Int) := by omega
  have en : (L : Int) - (k : Int) = (n : Int) := by omega
  have en2 : (L : Int) - (n : Int) = (k : Int) := by omega
  have hkL : k ≤ L := by omega
  have hkl2 : k < L := by omega
  have ht64 : t < 64 := by omega
  have tn : decide ((n : Int) ≤ 0) = false := decide_eq_false (by omega)
  have HD := Lib.hid (hv.dropW (k := k) (by omega))
  have hdl : (ws.drop k).length = n := by rw [List.length_drop]; omega
  have HDL := Lib.hid hdl
  have HQ : Hid (wv ws / 2 ^ s = wv (ws.drop k) / 2 ^ t) := Lib.hid (by
    rw [wv_drop hv.lt (by omega), w_two, Nat.div_div_eq_div_mul, ← Nat.pow_add]; congr 2; omega)
  have HV := Lib.hid hv
  have HLt := Lib.hid (show ∀ d ∈ ws.drop k, d < 18446744073709551616 from fun d hd => hv.lt d (List.mem_of_mem_drop hd))
  have hblk : sBlk (subS v k L) < w.heap.size := by
    rw [subS_blk hS]; exact hv.ri.lt (by rw [ints_length]; omega)
  have hLx : sLen (subS v k L) = n := by rw [subS_len hS]; omega
  have hSx : IsS (subS v k L) := subS_isS hS hkL (by have := hS.le; omega)
  have HL := Lib.hid hL
  clear hv hL hn hk ht hdl
  go_enter Tryz.func138, Tryz.ntmps138
  go_wp2_with fail
  refine (make_nil n w (by omega)).mono ?_
  rintro _ w1 ⟨z, rfl, ho, hb, hcz⟩
  have hSz := ho.isS
  have hLz : sLen z = n := by rw [ho.len]; simp
  have hcap := hcz hn1
  have hzB := (ho.lt hcap).1
  have HO := Lib.hid ho
  have HB := Lib.hid hb
  have HX := HD.out.below hb
  rw [← HL.out] at HX
  have HX1 := Lib.hid HX
  have hbz := hb.size
  clear ho hb hcz HX
  have fin : ∀ (os : List Nat) (w2 : World), Own w2 w.heap.size 128 z (cellsW os) → (∀ d ∈ os, d < 18446744073709551616) → wv os = wv ws / 2 ^ s → Own w2 w.heap.size 128 (subS z 0 (nw (wv os))) (cellsW (wds (wv ws / 2 ^ s))) :=
    fun os w2 h1 h2 h3 => by rw [← h3]; exact h1.takeW h2
  have FIN := Lib.hid fin
  clear fin
  by_cases ht0 : t = 0
  · have t1 : ((t : Int) == 0) = true := by rw [ht0]; rfl
    have HT0 := Lib.hid ht0
    clear ht0
    go_wp2_with (refine wpList_copy_O (o := ⟨some 46, _, _, _, _, _⟩) rfl (.tmp 40) (.tmp 45) 72 72 rfl 128 Tryz.underlying72 sizeW z (subS v k L) rfl (by simp [Act.eval]) w.heap.size (List.replicate n (.int .u64 0)) HO.out (cellsW (ws.drop k)) ?d1 hSx ?d2 ?d3 (cellsW_one _) ?_)
    case d1 => rw [cellsW_length, HDL.out]; simp
    case d2 => rw [cellsW_length, HDL.out]; exact hLx
    case d3 => exact HX1.out.at
    intro w2 ho2 hb2 _
    have hSz2 := ho2.isS
    have HO2 := Lib.hid ho2
    have HB2 := Lib.hid (HB.out.trans (hb2.mono (Nat.le_refl _)))
    clear ho2 hb2
    go_wp2_with fail
    refine (norm_any z (ws.drop k) w2 (HO2.out.rw' HLt.out) (by rw [HDL.out]; omega)).mono ?_
    rintro _ _ ⟨rfl, rfl⟩
    have F := Lib.hid (FIN.out (ws.drop k) w2 HO2.out HLt.out (by rw [HQ.out, HT0.out, Nat.pow_zero, Nat.div_one]))
    have hSr := F.out.isS
    go_wp2
    go_ret
    exact ⟨_, rfl, F.out, HB2.out⟩
  · have t1 : ((t : Int) == 0) = false := by rw [beq_eq_false_iff_ne]; omega
    have ht1 : 0 < t := by omega
    have HOZ : Hid (Own w1 w.heap.size 128 z (cellsW (List.replicate n 0))) := Lib.hid (by rw [← cellsW_zeros]; exact HO.out)
    clear ht0
    go_wp2_with fail
    refine (rshVU_any z (subS v k L) (List.replicate n 0) (ws.drop k) (wv (ws.drop k)) t w.heap.size w1 HOZ.out (fun d hd => by rw [List.eq_of_mem_replicate hd]; decide) HX1.out rfl (by rw [HDL.out]; simp) (fun h => by omega) (by rw [HDL.out]; exact hn1) (by rw [HDL.out]; omega) ht1 ht64).mono ?_
    rintro _ w2 ⟨c, rfl, ho2, hb2, _⟩
    rw [HDL.out] at ho2
    have hwv : wv (wdsN (wv (ws.drop k) / 2 ^ t) n) = wv (ws.drop k) / 2 ^ t := by
      rw [wdsN_wv]
      refine Nat.mod_eq_of_lt (Nat.lt_of_le_of_lt (Nat.div_le_self _ _) ?_)
      have := wv_lt HLt.out
      rw [HDL.out] at this; exact this
    have HWV := Lib.hid hwv
    have HO2 := Lib.hid ho2
    have HB2 := Lib.hid (HB.out.trans (hb2.mono (Nat.le_refl _)))
    clear ho2 hb2 hwv
    go_wp2_with fail
    refine (norm_any z (wdsN (wv (ws.drop k) / 2 ^ t) n) w2 (HO2.out.rw' wdsN_lt) (by rw [wdsN_length]; omega)).mono ?_
    rintro _ _ ⟨rfl, rfl⟩
    have F := Lib.hid (FIN.out _ w2 HO2.out wdsN_lt (by rw [HWV.out, HQ.out]))
    have hSr := F.out.isS
    go_wp2
    go_ret
    exact ⟨_, rfl, F.out, HB2.out⟩
end Go.Proofs.YtgclooabjilniaaGreatDoor

/-
lshVU: a number's words are shifted to the left, in place or from elsewhere; lsh into a new slice. No condition.
-/
namespace Go.Proofs.YtgclooabjilniaaGreatDoor
open Go.RowKit

/-- The words from place k on are Y's. -/
def Vd (v : Value) (n B k Y : Nat) (w wr : World) : Prop :=
  ∃ os : List Value, Own wr B 128 v os ∧ os.length = n ∧ (∀ j, k ≤ j → j < n → os[j]? = some (.int .u64 ((wdg Y j : Nat) : Int))) ∧ Below B w wr ∧ FrB (sBlk v) (sOff v + k) (sOff v + n) w wr
theorem Vd.start {v : Value} {B Y n : Nat} {os : List Value} {w : World} (h : Own w B 128 v os) (hn : os.length = n) : Vd v n B n Y w w :=
  ⟨os, h, hn, fun j h1 h2 => by omega, Below.refl _ _, FrB.refl _ _ _ _⟩
theorem Vd.put {v : Value} {n B k Y : Nat} {w wr : World} (h : Vd v n B (k + 1) Y w wr) (hk : k < n) (hc : B ≤ sBlk v) {y : Nat} (hy : y = wdg Y k) : Vd v n B k Y w (wr.setCell ⟨sBlk v, sOff v + k, none⟩ (.int .u64 (y : Int))) := by
  obtain ⟨os, h1, h2, h4, h5, h6⟩ := h
  have ho := h1.set (i := k) (by omega) (.int .u64 (y : Int))
  refine ⟨os.set k (.int .u64 (y : Int)), ho, by simpa using h2, fun j hj hjn => ?_, bset h5 hc, (h6.mono (by omega) (Nat.le_refl _)).set (Nat.le_refl _) (by omega) _⟩
  rw [List.getElem?_set]
  split
  · rename_i e; subst e; rw [if_pos (by omega), hy]
  · exact h4 j (by omega) hjn
theorem Vd.drewN {v : Value} {n B i Y k : Nat} {w wr : World} (h : Vd v n B i Y w wr) : Vd v n B i Y w (wr.drewN k) := by
  obtain ⟨os, h1, h2, h4, h5, h6⟩ := h
  exact ⟨os, h1.drewN _, h2, h4, undrewN' h5, h6.drewN⟩
theorem Vd.done {v : Value} {n B Y : Nat} {w wr : World} (h : Vd v n B 0 Y w wr) : VvP v n B Y w wr := by
  obtain ⟨os, h1, h2, h4, h5, h6⟩ := h
  have e : os = cellsW (wdsN Y n) := by
    apply List.ext_getElem?
    intro i
    by_cases hi : i < n
    · rw [h4 i (Nat.zero_le _) hi, cellsW, List.getElem?_map, wdsN, List.getElem?_map, List.getElem?_range hi]; rfl
    · rw [List.getElem?_eq_none (by omega), List.getElem?_eq_none (by rw [cellsW_length, wdsN_length]; omega)]
  rw [VvP, ← e]
  exact ⟨h1, h5, h6⟩
theorem Vd.src {v x : Value} {n B k Y : Nat} {xs : List Nat} {w wr : World} (h : Vd v n B k Y w wr) (hx : RW w x xs) (hal : sBlk x = sBlk v → sOff x ≤ sOff v) {j : Nat} (hij : j < k) (hj : j < xs.length) : wr.cell? ⟨sBlk x, sOff x + j, none⟩ = some (.int .u64 ((xs.getD j 0 : Nat) : Int)) := by
  obtain ⟨os, h1, h2, h4, h5, h6⟩ := h
  exact h6.cell (hx.cell j hj) (fun hb => by have := hal hb; omega)
theorem Vd.frozen {v : Value} {n B i Z : Nat} {w wr : World} (h : Vd v n B i Z w wr) (hc : 0 < sCap v) (k : Nat) : wr.frozen? ⟨sBlk v, k, none⟩ = false := by
  obtain ⟨os, h1, -⟩ := h
  exact h1.frozen hc k
theorem Vd.own {v : Value} {n B i Z : Nat} {w wr : World} (h : Vd v n B i Z w wr) {k : Nat} (hk : k < n) : ∃ u : Value, wr.cell? ⟨sBlk v, sOff v + k, none⟩ = some u := by
  obtain ⟨os, h1, h2, -⟩ := h
  exact ⟨_, h1.cell (List.getElem?_eq_getElem (by omega))⟩
set_option maxRecDepth 100000 in
set_option maxHeartbeats 1600000 in
theorem lshVU_g_gen (v x : Value) (os : List Value) (xs : List Nat) (X s B : Nat) (w : World) (ho : Own w B 128 v os) (hx : RW w x xs) (hX : wv xs = X) (hlen : os.length = xs.length) (hal : sBlk x = sBlk v → sOff x ≤ sOff v)
    (hl0 : 0 < xs.length) (hl : xs.length ≤ 1000000000) (hs0 : 0 < s) (hs : s < 64) :
    Calls Tryz.prog 163 #[v, x, .int .u64 s] w fun e w' => e = .returned (.int .u64 (wdg X (xs.length - 1) / 2 ^ (64 - s) : Nat)) ∧ VvP v xs.length B (X * 2 ^ s) w w' := by
  have hS := ho.isS
  have hSx := hx.isS
  have hL : sLen v = os.length := ho.len
  have hLx : sLen x = xs.length := hx.len
  have hcap : 0 < sCap v := by have := hS.le; omega
  have hB := (ho.lt hcap).1
  have hget : ∀ j, xs.getD j 0 = wdg X j := fun j => by rw [← hX, wv_dig hx.lt]
  obtain ⟨L, hLw⟩ : ∃ L, L + 1 = xs.length := ⟨xs.length - 1, by omega⟩
  have R0 := Lib.hid (Vd.start (Y := X * 2 ^ s) ho hlen)
  rw [← hLw] at R0
  have hc := hx.cell L (by omega)
  rw [hget] at hc
  have HXS : Hid (∀ j, j < L + 1 → j < xs.length) := Lib.hid (fun j hj => by omega)
  rw [← hLw] at hlen hLx hl ⊢
  rw [hlen] at hL
  rw [Nat.add_sub_cancel]
  have n1 := and63 hs
  have n2 := and63 (show 64 - s < 64 by omega)
  obtain ⟨r, hr⟩ : ∃ r, r = 64 - s := ⟨_, rfl⟩
  rw [← hr] at n2 ⊢
  have hr64 : r < 64 := by omega
  have e1 : (64 : Int) - (s : Int) = (r : Int) := by omega
  have hS2 : (2 : Int) ^ s = ((2 ^ s : Nat) : Int) := by simp
  have hR2 : (2 : Int) ^ r = ((2 ^ r : Nat) : Int) := by simp
  obtain ⟨t, ht⟩ : ∃ t, t = wdg X L := ⟨_, rfl⟩
  rw [← ht] at hc ⊢
  obtain ⟨S, hSS⟩ : ∃ S, S = 2 ^ s := ⟨_, rfl⟩
  rw [← hSS] at hS2
  have HS := Lib.hid hSS
  obtain ⟨R, hR⟩ : ∃ R, R = 2 ^ r := ⟨_, rfl⟩
  rw [← hR] at hR2 ⊢
  have hqt : (t : Int) / (R : Int) = ((t / R : Nat) : Int) := by simp
  have htl : t < 18446744073709551616 := by rw [ht]; exact wdg_lt _ _
  obtain ⟨q, hq⟩ : ∃ q, q = t / R := ⟨_, rfl⟩
  rw [← hq] at hqt ⊢
  have ts : ((s : Int) == 0) = false := by rw [beq_eq_false_iff_ne]; omega
  have HX := Lib.hid hx
  have HAL := Lib.hid hal
  have HG := Lib.hid hget
  have HR := Lib.hid hR
  have Hr := Lib.hid hr
  clear ho hLw hX hl0 hget ht hR hq hr hSS hx hlen hal
  go_enter Tryz.func163, Tryz.ntmps163
  go_wp2
  go_loopw [8] (fun i wr => ∃ k : Nat, k ≤ L ∧ i = .int .i64 k ∧ Vd v (L + 1) B (k + 1) (X * 2 ^ s) w wr) (fun i _ => (intOf i).toNat)
  case atStart => exact ⟨L, Nat.le_refl _, rfl, R0.out⟩
  case round =>
    obtain ⟨k, hk, rfl, hrel⟩ := hrel
    have HREL := Lib.hid hrel
    have hkL : k < L + 1 := by omega
    have fz := hrel.frozen hcap
    rcases Nat.eq_zero_or_pos k with hk0 | hk0
    · subst hk0
      have c0 := hrel.src HX.out HAL.out (j := 0) (by omega) (HXS.out 0 (by omega))
      obtain ⟨g, cv⟩ := hrel.own (k := 0) (by omega)
      rw [HG.out, Nat.add_zero] at c0
      rw [Nat.add_zero] at cv
      obtain ⟨d0, hd0⟩ : ∃ d, d = wdg X 0 := ⟨_, rfl⟩
      rw [← hd0] at c0
      have hm := wrapU d0 S
      obtain ⟨m, hmm⟩ : ∃ m, m = d0 * S % 18446744073709551616 := ⟨_, rfl⟩
      rw [← hmm] at hm
      have fz0 := fz (sOff v)
      have HM : m = wdg (X * 2 ^ s) 0 := by rw [wdg_shl_zero _ (by omega), hmm, hd0, HS.out]
      have PUT := (HREL.out.put (k := 0) hkL hB HM).done
      rw [Nat.add_zero] at PUT
      have PUT := Lib.hid PUT
      clear fz hd0 hmm HM hrel
      go_wp2
      go_ret
      exact ⟨rfl, PUT.out⟩
    · obtain ⟨j, rfl⟩ : ∃ j, k = j + 1 := ⟨k - 1, by omega⟩
      have c1 := hrel.src HX.out HAL.out (j := j + 1) (by omega) (HXS.out _ (by omega))
      have c0 := hrel.src HX.out HAL.out (j := j) (by omega) (HXS.out _ (by omega))
      obtain ⟨g, cv⟩ := hrel.own (k := j + 1) (by omega)
      rw [HG.out] at c1 c0
      obtain ⟨d1, hd1⟩ : ∃ d, d = wdg X (j + 1) := ⟨_, rfl⟩
      obtain ⟨d0, hd0⟩ : ∃ d, d = wdg X j := ⟨_, rfl⟩
      rw [← hd1] at c1
      rw [← hd0] at c0
      have hm := wrapU d1 S
      have hq0 : (d0 : Int) / (R : Int) = ((d0 / R : Nat) : Int) := by simp
      obtain ⟨m, hmm⟩ : ∃ m, m = d1 * S % 18446744073709551616 := ⟨_, rfl⟩
      obtain ⟨q0, hqq⟩ : ∃ q, q = d0 / R := ⟨_, rfl⟩
      rw [← hmm] at hm
      rw [← hqq] at hq0
      have hd0l : d0 < 18446744073709551616 := by rw [hd0]; exact wdg_lt _ _
      have hq0l : q0 < 2 ^ s := by
        rw [hqq, HR.out, Hr.out]
        refine Nat.div_lt_of_lt_mul ?_
        rw [word_split (by omega)]; exact hd0l
      have hor := bits_or_u64_nat m q0 (by rw [hmm]; exact Nat.mod_lt _ (by decide)) (by have := Nat.div_le_self d0 R; omega)
      have hy : m ||| q0 = wdg (X * 2 ^ s) (j + 1) := by
        rw [wdg_shl_succ _ _ hs, hmm, HS.out, shl_or hs hq0l, hqq, hd0, hd1, HR.out, Hr.out]
      rw [hy] at hor
      obtain ⟨y, hyy⟩ : ∃ y, y = wdg (X * 2 ^ s) (j + 1) := ⟨_, rfl⟩
      rw [← hyy] at hor
      have HY := Lib.hid hyy
      have fz1 := fz (sOff v + (j + 1))
      have hj1 : j + 1 < L + 1 := by omega
      clear fz hy hq0l hd0 hd1 hmm hqq hyy hrel
      go_wp2
      (refine wp_region_hoist 16 (by kernel_rfl) (by kernel_rfl) ⟨fun _ _ _ h => (by first | exact (hQp _ _ _ h).elim | cases h.2.1 | (obtain ⟨_, h3, _⟩ := h.2; cases h3)), fun _ _ h => (by first | exact (hQo _ _ h).elim | cases h.1 | (obtain ⟨_, h3, _⟩ := h; cases h3))⟩ ?_; simp only [List.take_succ_cons, List.take_zero, List.drop_succ_cons, List.drop_zero]; (repeat (go_big_quiet_step (fail))); refine wpQuiet_nil ?_; rintro _ ⟨nq, rfl⟩)
      go_wp2
      exact ⟨⟨j, by omega, rfl, HREL.out.drewN.put hj1 hB HY.out⟩, by simp [intOf]⟩
set_option maxRecDepth 100000 in
theorem lshVU_gen (v x : Value) (os : List Value) (xs : List Nat) (X s B : Nat) (w : World) (ho : Own w B 128 v os) (hx : RW w x xs) (hX : wv xs = X) (hlen : os.length = xs.length) (hal : sBlk x = sBlk v → sOff x ≤ sOff v)
    (hl0 : 0 < xs.length) (hl : xs.length ≤ 1000000000) (hs0 : 0 < s) (hs : s < 64) :
    Calls Tryz.prog 133 #[v, x, .int .u64 s] w fun e w' => e = .returned (.int .u64 (wdg X (xs.length - 1) / 2 ^ (64 - s) : Nat)) ∧ VvP v xs.length B (X * 2 ^ s) w w' := by
  have hS := ho.isS
  have hSx := hx.isS
  have H := Lib.hid (lshVU_g_gen v x os xs X s B w ho hx hX hlen hal hl0 hl hs0 hs)
  clear ho hx hX hlen hal hl0 hl
  go_enter Tryz.func133, Tryz.ntmps133
  go_wp2_with fail
  refine H.out.mono ?_
  rintro _ w1 ⟨rfl, h1⟩
  go_wp2
  go_ret
  exact ⟨rfl, h1⟩
end Go.Proofs.YtgclooabjilniaaGreatDoor
