/-
Texts of this proof, joined: RnL TzA TzB TzC TzD InF TzE SrA. No condition.
-/
import Derived.Test.YtjgkmnmemjebbaaDoorK02
import Derived.Test.YtjgkmnmemjebbaaDoorK05
import Derived.Test.YtjgkmnmemjebbaaDoorK13
import Derived.Test.YtjgkmnmemjebbaaDoorK15
import Derived.Lib.TrailingZeros
import Derived.Shelf.Spec.TrailingZeros
/-
Floats: round, setExpAndRound, any mode; a Float's value. No condition.
-/
namespace Go.Proofs.YtjgkmnmemjebbaaDoor
open Go.RowKit

theorem rnd_fits {ws : List Nat} {p m : Nat} (neg : Bool) (h : Good ws p) (X : Int) : rA p m neg 0 (wv ws) = 0 ∧ deq (rQ p m neg 0 (wv ws)) (X + rk p (wv ws)) (wv ws) X := by
  have hb := h.bl
  obtain ⟨-, -, -, -, hf⟩ := h
  rcases hf with hf | ⟨hf1, hf2, -⟩
  · obtain ⟨k0, q0, a0⟩ := rQ_fits (p := p) (m := m) (M := wv ws) neg (by omega)
    rw [k0, q0, a0]
    exact ⟨rfl, 0, 0, rfl, by omega⟩
  · have hk : rk p (wv ws) = 64 * ws.length - p := by unfold rk; rw [hb]
    have hl : rL p 0 (wv ws) = 0 := by unfold rL; rw [hk, hf2]; exact lef_exact _
    have hq : rQ p m neg 0 (wv ws) = wv ws / 2 ^ (64 * ws.length - p) := by unfold rQ rU; rw [hl, awy_zero, hk]; simp
    refine ⟨by unfold rA; rw [if_pos hl], ?_⟩
    rw [hq, hk]
    refine ⟨64 * ws.length - p, 0, ?_, by omega⟩
    rw [Nat.pow_zero, Nat.mul_one]
    exact Nat.div_mul_cancel (Nat.dvd_of_mod_eq_zero hf2)
set_option maxRecDepth 100000 in
theorem round_any (b B p m s : Nat) (a e : Int) (neg : Bool) (v : Value) (ws : List Nat) (w : World) (h : FltR w b p m a 1 neg v e) (hB : B ≤ b) (ho : Own w B 115 v (cellsW ws)) (hd : ∀ d ∈ ws, d < 18446744073709551616)
    (h0 : 0 < ws.length) (htop : 2 ^ (64 * ws.length - 1) ≤ wv ws) (hl : ws.length ≤ 1000000) (hp0 : 0 < p) (hp : p ≤ 64000000) (hm : m ≤ 5) (hs : s ≤ 1) (hsp : s = 0 ∨ p < 64 * ws.length) (he1 : -2147483648 ≤ e) (he2 : e < 2147483647) :
    Calls Tryd.prog 66 #[.pointer (some ⟨b, 0, none⟩), .int .u64 s] w fun e' w' => e' = .returned (.tuple #[]) ∧ RndP B b p m neg s (wv ws) (e - 64 * (ws.length : Int)) w w' := by
  by_cases hpL : p < 64 * ws.length
  · exact round_cut b B p m s a e neg v ws w h hB ho hd htop hpL hl hp0 hp hm hs he1 he2
  · have hs0 : s = 0 := by omega
    subst hs0
    have hf : Fits ws p := .inl (by omega)
    have hg : Good ws p := ⟨h0, hl, hd, htop, hf⟩
    have hc := round_exact b B p m a e neg v ws w h hB ho hd hf h0 hl hp0 hp
    refine Calls.mono hc ?_
    rintro _ w' ⟨rfl, r1, r2, r3⟩
    obtain ⟨k1, k2⟩ := rnd_fits (m := m) neg hg (e - 64 * (ws.length : Int))
    exact ⟨rfl, v, ws, e, by rw [k1]; exact r1, r2, hg, k2.symm, r3⟩
set_option maxRecDepth 100000 in
set_option maxHeartbeats 800000 in
theorem setExp_any (b B p m f s : Nat) (a e x : Int) (neg : Bool) (v : Value) (ws : List Nat) (w : World) (h : FltR w b p m a f neg v e) (hB : B ≤ b) (ho : Own w B 115 v (cellsW ws)) (hd : ∀ d ∈ ws, d < 18446744073709551616)
    (h0 : 0 < ws.length) (htop : 2 ^ (64 * ws.length - 1) ≤ wv ws) (hl : ws.length ≤ 1000000) (hp0 : 0 < p) (hp : p ≤ 64000000) (hm : m ≤ 5) (hs : s ≤ 1) (hsp : s = 0 ∨ p < 64 * ws.length) (hx1 : -2147483648 ≤ x) (hx2 : x < 2147483647) :
    Calls Tryd.prog 72 #[.pointer (some ⟨b, 0, none⟩), .int .i64 x, .int .u64 s] w fun e' w' => e' = .returned (.tuple #[]) ∧ RndP B b p m neg s (wv ws) (x - 64 * (ws.length : Int)) w w' := by
  obtain ⟨c0, c1, c2, c3, c4, c5, c6⟩ := h.cells
  obtain ⟨f0, f1, f2, f3, f4, f5, f6⟩ := h.free
  have hS := ho.isS
  have R2 := Lib.hid ((h.s3 1).s6 x)
  have O2 := Lib.hid ((h.s3 1).own (h.own ho 3 (.int .u8 (1 : Int))) 6 (.int .i32 x))
  have B2 := Lib.hid (bset (i := 6) (u := .int .i32 x) (bset (i := 3) (u := .int .u8 (1 : Int)) (Below.refl B w) hB) hB)
  have HD := Lib.hid hd
  have HT := Lib.hid htop
  have HS := Lib.hid hsp
  clear h ho hd htop hsp
  go_enter Tryd.func72, Tryd.ntmps72
  go_wp2_with fail
  refine (round_any b B p m s a x neg v ws _ R2.out hB O2.out HD.out h0 HT.out hl hp0 hp hm hs HS.out hx1 hx2).mono ?_
  rintro _ w1 ⟨rfl, v1, ws1, e1, r1, r2, r3, r4, r5⟩
  have Q : Hid (RndP B b p m neg s (wv ws) (x - 64 * (ws.length : Int)) w w1) := Lib.hid ⟨v1, ws1, e1, r1, r2, r3, r4, B2.out.trans r5⟩
  clear r1 r2 r3 r4 r5
  go_wp2
  go_end0
  exact ⟨rfl, Q.out⟩
/-- A Float with its value: of a finite one M times 2 to X. -/
def FVal (w : World) (B b p m : Nat) (a : Int) (f : Nat) (neg : Bool) (M : Nat) (X : Int) : Prop :=
  ∃ v e, FltR w b p m a f neg v e ∧ (f = 1 → 0 < M ∧ ∃ ws, Own w B 115 v (cellsW ws) ∧ Good ws p ∧ deq (wv ws) (e - 64 * (ws.length : Int)) M X)
theorem FVal.below {w w' : World} {B b p m f : Nat} {a : Int} {neg : Bool} {M : Nat} {X : Int} (h : FVal w B b p m a f neg M X) (hb : Below w.heap.size w w') : FVal w' B b p m a f neg M X := by
  obtain ⟨v, e, h1, h3⟩ := h
  refine ⟨v, e, h1.below hb, fun hf => ?_⟩
  obtain ⟨h4, ws, h5, h6, h7⟩ := h3 hf
  exact ⟨h4, ws, h5.below hb, h6, h7⟩
theorem topN_good {M p : Nat} (h : 0 < M) (hM : bl M ≤ p) (hl : nw M ≤ 1000000) : Good (topN M) p := by
  have hb := nw_bl h
  have hbp := bl_pos h
  refine ⟨by rw [topN_length]; exact nw_pos h, by rw [topN_length]; exact hl, wdsN_lt, ?_, topN_fits h hM⟩
  rw [topN_length, topN_wv h, show 64 * nw M - 1 = (bl M - 1) + (64 * nw M - bl M) by omega, Nat.pow_add]
  exact Nat.mul_le_mul_right _ (bl_ge h)
/-- What impl.float gives. -/
theorem FloatAt.val {w : World} {B g p m f M : Nat} {neg : Bool} {e : Int} (h : FloatAt w B g p m f neg M e) (h1 : f = 1 → 0 < M ∧ bl M ≤ p ∧ nw M ≤ 1000000) : FVal w B g p m 0 f neg M e := by
  obtain ⟨-, r, x, h2, h3⟩ := h
  refine ⟨r, x, h2, fun hf => ?_⟩
  obtain ⟨k1, k2, k3⟩ := h1 hf
  obtain ⟨k4, k5⟩ := h3 hf
  have hb := nw_bl k1
  refine ⟨k1, topN M, k5, topN_good k1 k2 k3, ?_⟩
  rw [topN_wv k1, topN_length, k4]
  refine ⟨0, 64 * nw M - bl M, by simp, ?_⟩
  omega
/-- What round gives is a Float's value. -/
theorem RndP.val {B b p m s N : Nat} {neg : Bool} {X : Int} {w w' : World} (h : RndP B b p m neg s N X w w') (hN : 0 < rQ p m neg s N) : FVal w' B b p m (rA p m neg s N) 1 neg (rQ p m neg s N) (X + rk p N) := by
  obtain ⟨v, ws, e, h1, h2, h3, h4, -⟩ := h
  exact ⟨v, e, h1, fun _ => ⟨hN, ws, h2, h3, h4⟩⟩
end Go.Proofs.YtjgkmnmemjebbaaDoor

/-
bits.TrailingZeros by its table; a Float's least precision. No condition.
-/
namespace Go.Proofs.YtjgkmnmemjebbaaDoor
open Go.RowKit

/-- The table of bits.TrailingZeros64 lies in its variable. -/
def TabW (w : World) : Prop := TabAt 1 Lib.deBruijn64tab w
theorem TabW.below {w w' : World} (h : TabW w) (hb : Below w.heap.size w w') : TabW w' := fun j hj => by
  have h1 := h j hj
  have hlt := World.block_lt_of_cell? w _ h1
  rw [hb.cell (p := ⟨1, j, none⟩) hlt]; exact h1
theorem TabW.drewN {w : World} (h : TabW w) (n : Nat) : TabW (w.drewN n) := h
theorem ctz_tz {x : Nat} (h0 : 0 < x) (hx : x < 18446744073709551616) : Lib.ctz 64 x = tz x := by
  obtain ⟨m, hm, -⟩ := Lib.ctzFrom_spec 64 x h0 (by simpa using hx)
  have e : Lib.ctz 64 x = Lib.ctzFrom 64 x := by simp [Lib.ctz]; omega
  rw [e]
  exact ((od_of (n := x) (o := 2 * m + 1) (t := Lib.ctzFrom 64 x) (by rw [Nat.mul_comm]; exact hm) (by omega)).2).symm
set_option maxRecDepth 100000 in
theorem tz64_any (x : Nat) (w : World) (h0 : 0 < x) (hx : x < 18446744073709551616) (hT : TabW w) :
    Calls Tryd.prog 110 #[.int .u64 x] w fun e w' => e = .returned (.int .i64 (tz x : Nat)) ∧ w = w' := by
  obtain ⟨hlow, hk⟩ := Lib.lowest_bit 64 x (by omega) (by simpa using hx)
  obtain ⟨hi, htab⟩ := Lib.deBruijn64_at _ hk
  have hcell := hT _ hi
  rw [htab, ctz_tz h0 hx] at hcell
  have key := tz64_key x _ hx (by omega) hlow
  rw [ctz_tz h0 hx] at key hi
  rw [ctz_tz h0 hx] at hk
  obtain ⟨i, hii⟩ : ∃ i, i = 2 ^ tz x * 285870213051353865 % 18446744073709551616 / 288230376151711744 := ⟨_, rfl⟩
  rw [← hii] at key hi hcell
  have t0 : ((x : Int) == 0) = false := by rw [beq_eq_false_iff_ne]; omega
  obtain ⟨k, hkk⟩ : ∃ k, k = tz x := ⟨_, rfl⟩
  rw [← hkk] at hcell hk ⊢
  clear hlow htab hii hkk hT
  go_enter Tryd.func110, Tryd.ntmps110
  go_wp2_with (simp only [key])
  go_ret
  exact ⟨rfl, rfl⟩
set_option maxRecDepth 100000 in
theorem tzc_any (x : Nat) (w : World) (h0 : 0 < x) (hx : x < 18446744073709551616) (hT : TabW w) :
    Calls Tryd.prog 98 #[.int .u64 x] w fun e w' => e = .returned (.int .i64 (tz x : Nat)) ∧ w = w' := by
  have H := Lib.hid (tz64_any x w h0 hx hT)
  have hk : tz x < 64 := by have := tz_le h0; have := bl_le64 hx; omega
  obtain ⟨k, hkk⟩ : ∃ k, k = tz x := ⟨_, rfl⟩
  rw [← hkk] at hk H ⊢
  clear hkk h0 hT
  go_enter Tryd.func98, Tryd.ntmps98
  go_wp2_with fail
  refine H.out.mono ?_
  rintro _ _ ⟨rfl, rfl⟩
  go_wp2
  go_ret
  exact ⟨rfl, rfl⟩
/-- Words that are 0 below place k. -/
theorem tz_words {N k : Nat} (h : ∀ j, j < k → wdg N j = 0) (hk : wdg N k ≠ 0) : tz N = 64 * k + tz (wdg N k) := by
  have h1 := (wlow_zero (n := N) k).2 h
  have hd := Nat.pos_of_ne_zero hk
  have hN : N = 18446744073709551616 ^ k * (N / 18446744073709551616 ^ k) := by have := Nat.div_add_mod N (18446744073709551616 ^ k); omega
  obtain ⟨o1, o2⟩ := od_tz hd
  have hq : N / 18446744073709551616 ^ k = 18446744073709551616 * (N / 18446744073709551616 ^ k / 18446744073709551616) + wdg N k := by
    unfold wdg; exact (Nat.div_add_mod _ _).symm
  have ht : tz (wdg N k) < 64 := by have := tz_le hd; have := bl_le64 (wdg_lt N k); omega
  obtain ⟨Y, hY⟩ : ∃ Y, Y = N / 18446744073709551616 ^ k / 18446744073709551616 := ⟨_, rfl⟩
  rw [← hY] at hq
  have e : (18446744073709551616 : Nat) = 2 ^ (63 - tz (wdg N k)) * 2 * 2 ^ tz (wdg N k) := by
    rw [← Nat.pow_succ, ← Nat.pow_add, show 63 - tz (wdg N k) + 1 + tz (wdg N k) = 64 by omega]
  have h2 : N / 18446744073709551616 ^ k = (2 * (2 ^ (63 - tz (wdg N k)) * Y) + od (wdg N k)) * 2 ^ tz (wdg N k) := by
    rw [hq, Nat.add_mul, ← o1]
    congr 1
    conv => lhs; rw [e]
    simp only [Nat.mul_comm, Nat.mul_left_comm]
  refine (od_of (n := N) (o := 2 * (2 ^ (63 - tz (wdg N k)) * Y) + od (wdg N k)) (t := 64 * k + tz (wdg N k)) ?_ (by omega)).2
  conv => lhs; rw [hN, h2, w_two]
  rw [Nat.mul_comm (2 ^ (64 * k)), Nat.mul_assoc, ← Nat.pow_add, Nat.add_comm (tz _)]
set_option maxRecDepth 100000 in
set_option maxHeartbeats 800000 in
theorem tzb_any (v : Value) (ws : List Nat) (w : World) (hv : RW w v ws) (h0 : 0 < wv ws) (hl : ws.length ≤ 1000000000) (hT : TabW w) :
    Calls Tryd.prog 80 #[v] w fun e w' => e = .returned (.int .u64 (tz (wv ws) : Nat)) ∧ w = w' := by
  have hS := hv.isS
  have hL : sLen v = ws.length := hv.len
  have hget : ∀ j, ws.getD j 0 = wdg (wv ws) j := fun j => by rw [wv_dig hv.lt]
  have hne : 0 < ws.length := by
    rcases Nat.eq_zero_or_pos ws.length with h | h
    · have := List.eq_nil_of_length_eq_zero h; subst this; simp [wv] at h0
    · exact h
  obtain ⟨L, hLw⟩ : ∃ L, L = ws.length := ⟨_, rfl⟩
  rw [← hLw] at hL hl hne
  have hNl : wv ws < 18446744073709551616 ^ L := by rw [hLw]; exact wv_lt hv.lt
  obtain ⟨N, hN⟩ : ∃ N, N = wv ws := ⟨_, rfl⟩
  rw [← hN] at h0 hget hNl ⊢
  have t0 : ((L : Int) == 0) = false := by rw [beq_eq_false_iff_ne]; omega
  have HV := Lib.hid hv
  have HG := Lib.hid hget
  have HL := Lib.hid hLw
  have HT := Lib.hid hT
  have HNL := Lib.hid hNl
  clear hv hget hLw hT hN hNl
  go_enter Tryd.func80, Tryd.ntmps80
  go_wp2
  go_loopw [3] (fun i wr => ∃ k : Nat, k < L ∧ (∀ j, j < k → wdg N j = 0) ∧ i = .int .u64 k ∧ w = wr) (fun i _ => L - (intOf i).toNat)
  case atStart => exact ⟨0, hne, fun j hj => absurd hj (by omega), rfl, rfl⟩
  case round =>
    obtain ⟨k, hk, hz, rfl, rfl⟩ := hrel
    have c := HV.out.cell k (by rw [← HL.out]; exact hk)
    rw [HG.out] at c
    have HZ := Lib.hid hz
    have hdl := wdg_lt N k
    obtain ⟨d, hd⟩ : ∃ d, d = wdg N k := ⟨_, rfl⟩
    rw [← hd] at c hdl
    have HD := Lib.hid hd
    clear hz hd
    by_cases hd0 : d = 0
    · subst hd0
      have hk1 : k + 1 < L := by
        refine Nat.lt_of_not_le fun hc => ?_
        have : N % 18446744073709551616 ^ L = 0 := (wlow_zero (n := N) L).2 fun j hj => by
          by_cases hjk : j < k
          · exact HZ.out j hjk
          · rw [show j = k by omega]; exact HD.out.symm
        rw [Nat.mod_eq_of_lt HNL.out] at this
        omega
      go_wp2
      refine ⟨⟨k + 1, hk1, fun j hj => ?_, by simp, trivial⟩, by simp [intOf]; omega⟩
      by_cases hjk : j < k
      · exact HZ.out j hjk
      · rw [show j = k by omega]; exact HD.out.symm
    · have t1 : ((d : Int) == 0) = false := by rw [beq_eq_false_iff_ne]; omega
      have hdp : 0 < d := by omega
      have ht := tz_words HZ.out (by rw [← HD.out]; exact hd0)
      rw [← HD.out] at ht
      have htl : tz d < 64 := by have := tz_le hdp; have := bl_le64 hdl; omega
      have HTD := Lib.hid ht
      clear ht hd0
      go_wp2_with fail
      refine (tzc_any d w hdp hdl HT.out).mono ?_
      rintro _ _ ⟨rfl, rfl⟩
      obtain ⟨q, hq⟩ : ∃ q, q = tz d := ⟨_, rfl⟩
      rw [← hq] at htl HTD ⊢
      clear hq
      go_wp2
      go_ret
      rw [HTD.out]
      exact ⟨ret_u64 (by push_cast; omega), rfl⟩
end Go.Proofs.YtjgkmnmemjebbaaDoor

/-
A number shifted to the right into a new slice. No condition.
-/
namespace Go.Proofs.YtjgkmnmemjebbaaDoor
open Go.RowKit

theorem RW.dropW {w : World} {v : Value} {ws : List Nat} {k : Nat} (h : RW w v ws) (hk : k ≤ ws.length) : RW w (subS v k ws.length) (ws.drop k) := by
  refine ⟨?_, fun d hd => h.lt d (List.mem_of_mem_drop hd)⟩
  have := h.ri.sub (l := k) (n := ws.length) hk (by rw [ints_length]; exact Nat.le_refl _)
  rw [List.take_of_length_le (by rw [ints_length]; exact Nat.le_refl _)] at this
  unfold ints at this ⊢
  rw [List.map_drop]
  exact this
theorem cellsW_zeros (n : Nat) : List.replicate n (Value.int .u64 0) = cellsW (List.replicate n 0) := by
  unfold cellsW; rw [List.map_replicate]; rfl
set_option maxRecDepth 100000 in
set_option maxHeartbeats 1600000 in
theorem rsh_nil (v : Value) (ws : List Nat) (s : Nat) (w : World) (hv : RW w v ws) (hl : ws.length ≤ 1000000) (hs0 : 0 < s) (hs : s < 64 * ws.length) :
    Calls Tryd.prog 83 #[.slice none 0 0, v, .int .u64 s] w fun e w' => ∃ r, e = .returned r ∧ Own w' w.heap.size 115 r (cellsW (wds (wv ws / 2 ^ s))) ∧ Below w.heap.size w w' := by
  have hS := hv.isS
  have hLv := hv.len
  obtain ⟨L, hL⟩ : ∃ L, L = ws.length := ⟨_, rfl⟩
  rw [← hL] at hLv hl hs
  have t0 : ((s : Int) == 0) = false := by rw [beq_eq_false_iff_ne]; omega
  obtain ⟨n, hn⟩ : ∃ n, n = L - s / 64 := ⟨_, rfl⟩
  obtain ⟨k, hk⟩ : ∃ k, k = s / 64 := ⟨_, rfl⟩
  obtain ⟨t, ht⟩ : ∃ t, t = s % 64 := ⟨_, rfl⟩
  have hn1 : 0 < n := by omega
  have hnl : n ≤ 1000000 := by omega
  have ek : (s : Int) / 64 = (k : Int) := by omega
  have et : (s : Int) % 64 = (t : Int) := by omega
  have en : (L : Int) - (k : Int) = (n : Int) := by omega
  have en2 : (L : Int) - (n : Int) = (k : Int) := by omega
  have hkL : k ≤ L := by omega
  have hkl2 : k < L := by omega
  have ht64 : t < 64 := by omega
  have tn : decide ((n : Int) ≤ 0) = false := decide_eq_false (by omega)
  have HD := Lib.hid (hv.dropW (k := k) (by omega))
  have hdl : (ws.drop k).length = n := by rw [List.length_drop]; omega
  have HDL := Lib.hid hdl
  have HQ : Hid (wv ws / 2 ^ s = wv (ws.drop k) / 2 ^ t) := Lib.hid (by
    rw [wv_drop hv.lt (by omega), w_two, Nat.div_div_eq_div_mul, ← Nat.pow_add]; congr 2; omega)
  have HV := Lib.hid hv
  have HLt := Lib.hid (show ∀ d ∈ ws.drop k, d < 18446744073709551616 from fun d hd => hv.lt d (List.mem_of_mem_drop hd))
  have hblk : sBlk (subS v k L) < w.heap.size := by
    rw [subS_blk hS]; exact hv.ri.lt (by rw [ints_length]; omega)
  have hLx : sLen (subS v k L) = n := by rw [subS_len hS]; omega
  have hSx : IsS (subS v k L) := subS_isS hS hkL (by have := hS.le; omega)
  have HL := Lib.hid hL
  clear hv hL hn hk ht hdl
  go_enter Tryd.func83, Tryd.ntmps83
  go_wp2_with fail
  refine (make_nil n w (by omega)).mono ?_
  rintro _ w1 ⟨z, rfl, ho, hb, hcz⟩
  have hSz := ho.isS
  have hLz : sLen z = n := by rw [ho.len]; simp
  have hcap := hcz hn1
  have hzB := (ho.lt hcap).1
  have HO := Lib.hid ho
  have HB := Lib.hid hb
  have HX := HD.out.below hb
  rw [← HL.out] at HX
  have HX1 := Lib.hid HX
  have hbz := hb.size
  clear ho hb hcz HX
  have fin : ∀ (os : List Nat) (w2 : World), Own w2 w.heap.size 115 z (cellsW os) → (∀ d ∈ os, d < 18446744073709551616) → wv os = wv ws / 2 ^ s → Own w2 w.heap.size 115 (subS z 0 (nw (wv os))) (cellsW (wds (wv ws / 2 ^ s))) :=
    fun os w2 h1 h2 h3 => by rw [← h3]; exact h1.takeW h2
  have FIN := Lib.hid fin
  clear fin
  by_cases ht0 : t = 0
  · have t1 : ((t : Int) == 0) = true := by rw [ht0]; rfl
    have HT0 := Lib.hid ht0
    clear ht0
    go_wp2_with (refine wpList_copy_O (o := ⟨some 46, _, _, _, _, _⟩) rfl (.tmp 40) (.tmp 45) 75 75 rfl 115 Tryd.underlying75 sizeW z (subS v k L) rfl (by simp [Act.eval]) w.heap.size (List.replicate n (.int .u64 0)) HO.out (cellsW (ws.drop k)) ?d1 hSx ?d2 ?d3 (cellsW_one _) ?_)
    case d1 => rw [cellsW_length, HDL.out]; simp
    case d2 => rw [cellsW_length, HDL.out]; exact hLx
    case d3 => exact HX1.out.at
    intro w2 ho2 hb2 _
    have hSz2 := ho2.isS
    have HO2 := Lib.hid ho2
    have HB2 := Lib.hid (HB.out.trans (hb2.mono (Nat.le_refl _)))
    clear ho2 hb2
    go_wp2_with fail
    refine (norm_any z (ws.drop k) w2 (HO2.out.rw' HLt.out) (by rw [HDL.out]; omega)).mono ?_
    rintro _ _ ⟨rfl, rfl⟩
    have F := Lib.hid (FIN.out (ws.drop k) w2 HO2.out HLt.out (by rw [HQ.out, HT0.out, Nat.pow_zero, Nat.div_one]))
    have hSr := F.out.isS
    go_wp2
    go_ret
    exact ⟨_, rfl, F.out, HB2.out⟩
  · have t1 : ((t : Int) == 0) = false := by rw [beq_eq_false_iff_ne]; omega
    have ht1 : 0 < t := by omega
    have HOZ : Hid (Own w1 w.heap.size 115 z (cellsW (List.replicate n 0))) := Lib.hid (by rw [← cellsW_zeros]; exact HO.out)
    clear ht0
    go_wp2_with fail
    refine (rshVU_any z (subS v k L) (List.replicate n 0) (ws.drop k) (wv (ws.drop k)) t w.heap.size w1 HOZ.out (fun d hd => by rw [List.eq_of_mem_replicate hd]; decide) HX1.out rfl (by rw [HDL.out]; simp) (fun h => by omega) (by rw [HDL.out]; exact hn1) (by rw [HDL.out]; omega) ht1 ht64).mono ?_
    rintro _ w2 ⟨c, rfl, ho2, hb2, _⟩
    rw [HDL.out] at ho2
    have hwv : wv (wdsN (wv (ws.drop k) / 2 ^ t) n) = wv (ws.drop k) / 2 ^ t := by
      rw [wdsN_wv]
      refine Nat.mod_eq_of_lt (Nat.lt_of_le_of_lt (Nat.div_le_self _ _) ?_)
      have := wv_lt HLt.out
      rw [HDL.out] at this; exact this
    have HWV := Lib.hid hwv
    have HO2 := Lib.hid ho2
    have HB2 := Lib.hid (HB.out.trans (hb2.mono (Nat.le_refl _)))
    clear ho2 hb2 hwv
    go_wp2_with fail
    refine (norm_any z (wdsN (wv (ws.drop k) / 2 ^ t) n) w2 (HO2.out.rw' wdsN_lt) (by rw [wdsN_length]; omega)).mono ?_
    rintro _ _ ⟨rfl, rfl⟩
    have F := Lib.hid (FIN.out _ w2 HO2.out wdsN_lt (by rw [HWV.out, HQ.out]))
    have hSr := F.out.isS
    go_wp2
    go_ret
    exact ⟨_, rfl, F.out, HB2.out⟩
end Go.Proofs.YtjgkmnmemjebbaaDoor

/-
Floats: the least precision; a Float as an integer. No condition.
-/
namespace Go.Proofs.YtjgkmnmemjebbaaDoor
open Go.RowKit

set_option maxRecDepth 100000 in
set_option maxHeartbeats 800000 in
theorem minPrec_one (b p m : Nat) (a e : Int) (neg : Bool) (v : Value) (ws : List Nat) (w : World) (h : FltR w b p m a 1 neg v e) (hv : RW w v ws) (h0 : 0 < wv ws) (hl : ws.length ≤ 1000000) (htop : bl (wv ws) = 64 * ws.length) (hT : TabW w) :
    Calls Tryd.prog 52 #[.pointer (some ⟨b, 0, none⟩)] w fun e' w' => e' = .returned (.int .u64 (bl (od (wv ws)) : Nat)) ∧ ∃ n, w' = w.drewN n := by
  obtain ⟨c0, c1, c2, c3, c4, c5, c6⟩ := h.cells
  have hS := hv.isS
  have hL := hv.len
  have hb := bl_od h0
  obtain ⟨t, ht⟩ : ∃ t, t = tz (wv ws) := ⟨_, rfl⟩
  obtain ⟨q, hq⟩ : ∃ q, q = bl (od (wv ws)) := ⟨_, rfl⟩
  obtain ⟨L, hLL⟩ : ∃ L, L = ws.length := ⟨_, rfl⟩
  have hTz : ∀ k, Calls Tryd.prog 80 #[v] (w.drewN k) fun e' w' => e' = .returned (.int .u64 (t : Nat)) ∧ w' = w.drewN k := fun k => by
    rw [ht]
    refine (tzb_any v ws (w.drewN k) (hv.below (undrewN' (Below.refl _ _))) h0 (by omega) (hT.drewN k)).mono ?_
    rintro _ _ ⟨rfl, rfl⟩
    exact ⟨rfl, rfl⟩
  have HTz := Lib.hid hTz
  have e1 : (L : Int) * 64 - (t : Int) = (q : Int) := by rw [htop, ← hq, ← ht, ← hLL] at hb; omega
  rw [← hq]
  rw [← hLL] at hL hl
  have hqb : q ≤ 64000000 := by omega
  have htb : t ≤ 64000000 := by omega
  clear h hv h0 htop hT hTz ht hq hLL hb
  go_enter Tryd.func52, Tryd.ntmps52
  go_wp2_with fail
  go_quiet ((go_at_call 80; exact Calls.quiet_of_same (HTz.out _)))
  go_wp2
  go_ret
  exact ⟨rfl, _, rfl⟩
/-- An integer's cells lie new. -/
theorem intP_of {w : World} {B g n : Nat} {neg : Bool} {v : Value} (hB : B ≤ g) (h : w.heap[g]? = some (.cells #[.bool neg, v] 109 (0, 0))) (ho : Own w B 115 v (cellsW (wds n))) : IntP w B g neg n := ⟨v, hB, h, ho⟩
def accI (neg ex : Bool) : Int := if ex then 0 else if neg then 1 else -1
set_option maxRecDepth 100000 in
set_option maxHeartbeats 3200000 in
theorem floatInt_le (b p m k : Nat) (a : Int) (neg : Bool) (v : Value) (ws : List Nat) (w : World) (h : FltR w b p m a 1 neg v (k : Int)) (hv : RW w v ws) (h0 : 0 < wv ws) (hl : ws.length ≤ 1000000) (htop : bl (wv ws) = 64 * ws.length) (hT : TabW w)
    (hk0 : 0 < k) (hk : k ≤ 64 * ws.length) :
    Calls Tryd.prog 56 #[.pointer (some ⟨b, 0, none⟩), .pointer none] w fun e' w' => ∃ g, e' = .returned (.tuple #[.pointer (some ⟨g, 0, none⟩), .int .i8 (accI neg (decide (bl (od (wv ws)) ≤ k)))]) ∧ IntP w' w.heap.size g neg (wv ws / 2 ^ (64 * ws.length - k)) ∧ Below w.heap.size w w' := by
  have hS := hv.isS
  have hL := hv.len
  have hrow : (w.alloc (.cells #[.bool false, .slice none 0 0] 109)).heap[w.heap.size]? = some (.cells #[.bool false, .slice none 0 0] 109 (0, 0)) := box_row (Below.refl _ _)
  obtain ⟨X, hX⟩ : ∃ X, X = w.alloc (.cells #[.bool false, .slice none 0 0] 109) := ⟨_, rfl⟩
  have hab := (Below.refl w.heap.size w).alloc (Nat.le_refl _) (.cells #[.bool false, .slice none 0 0] 109)
  rw [← hX] at hrow hab
  have hF := h.below hab
  obtain ⟨c0, c1, c2, c3, c4, c5, c6⟩ := h.cells
  have hR := hrow
  obtain ⟨L, hLL⟩ : ∃ L, L = ws.length := ⟨_, rfl⟩
  obtain ⟨P, hP⟩ : ∃ P, P = bl (od (wv ws)) := ⟨_, rfl⟩
  have HF := Lib.hid hF
  have HV := Lib.hid hv
  have HWS : Hid (cellsW ws = cellsW (wds (wv ws))) := Lib.hid (congrArg cellsW (wds_of hv.lt (by rw [nw_bl h0, htop]; omega)))
  have HMP := Lib.hid (fun (W : World) (hb : Below w.heap.size w W) => minPrec_one b p m a (k : Int) neg v ws W (h.below hb) (hv.below hb) h0 hl htop (hT.below hb))
  rw [← hP] at HMP ⊢
  have HAB := Lib.hid hab
  have HR := Lib.hid hR
  rw [← hLL] at hL hk hl ⊢
  have hne : ¬ b = w.heap.size := fun hc => by have := h.lt; omega
  have hne' : ¬ w.heap.size = b := fun hc => hne hc.symm
  have hPb : P ≤ 64000000 := by
    have h1 := bl_od h0
    rw [hP]; rw [htop, ← hLL] at h1; omega
  have t1 : decide ((k : Int) ≤ 0) = false := decide_eq_false (by omega)
  have hXs := hab.size
  have HLL := Lib.hid hLL
  clear h hv h0 htop hT hab hrow hF hR hP hLL
  go_enter Tryd.func56, Tryd.ntmps56
  go_upto_region 3 with fail
  rw [← hX]
  clear hX c0 c1 c2 c3 c4 c5 c6
  obtain ⟨c0, c1, c2, c3, c4, c5, c6⟩ := HF.out.cells
  have c3' : X.cell? ⟨b, 3, none⟩ = some (.int .u8 1) := c3
  clear c3
  go_wp2_with fail
  refine (makeAcc_any neg X).mono ?_
  rintro _ _ ⟨rfl, rfl⟩
  obtain ⟨ac, hac⟩ : ∃ ac : Int, ac = (if neg then 1 else -1) := ⟨_, rfl⟩
  rw [← hac]
  have HAC := Lib.hid hac
  clear hac
  go_wp2_with fail
  refine (HMP.out X HAB.out).mono ?_
  rintro _ _ ⟨rfl, n1, rfl⟩
  go_upto_if 53 with fail
  go_cut [6] (fun x wx => x = .int .i8 (accI neg (decide (P ≤ k))) ∧ X.drewN n1 = wx)
  case first =>
    by_cases hPk : P ≤ k
    · have q1 : decide (P ≤ k) = true := decide_eq_true hPk
      go_wp2_with fail
      go_meet
      exact ⟨by rw [q1]; rfl, rfl⟩
    · have q1 : decide (P ≤ k) = false := decide_eq_false hPk
      go_wp2_with fail
      go_meet
      exact ⟨by rw [q1, HAC.out]; rfl, rfl⟩
  case rest =>
    obtain ⟨rfl, rfl⟩ := hcut
    obtain ⟨A, hA⟩ : ∃ A, A = accI neg (decide (P ≤ k)) := ⟨_, rfl⟩
    rw [← hA]
    have HAA := Lib.hid hA
    clear hA HAC
    have hR : (X.drewN n1).heap[w.heap.size]? = some (.cells #[.bool false, .slice none 0 0] 109 (0, 0)) := HR.out
    have hF : FltR (X.drewN n1) b p m a 1 neg v (k : Int) := HF.out
    have hB1 : Below w.heap.size w (X.drewN n1) := undrewN' HAB.out
    obtain ⟨W, hW⟩ : ∃ W, W = X.drewN n1 := ⟨_, rfl⟩
    rw [← hW] at hR hF hB1 ⊢
    clear hW HR HF HMP HAB c0 c1 c2 c3' c4 c5 c6
    have r0 : W.cell? ⟨w.heap.size, 0, none⟩ = some (.bool false) := (row_at (i := 0) hR rfl).1
    have r1 : W.cell? ⟨w.heap.size, 1, none⟩ = some (.slice none 0 0) := (row_at (i := 1) hR rfl).1
    have z0 := frozen_of_row W w.heap.size 0 _ _ hR
    have z1 := frozen_of_row W w.heap.size 1 _ _ hR
    obtain ⟨c0, c1, c2, c3, c4, c5, c6⟩ := hF.cells
    have hWs := hB1.size
    have R1 := rowset (i := 0) (.bool neg) hR
    have hB2 := bset (i := 0) (u := .bool neg) hB1 (Nat.le_refl _)
    have R1c : (W.setCell ⟨w.heap.size, 0, none⟩ (.bool neg)).heap[w.heap.size]? = some (.cells #[.bool neg, .slice none 0 0] 109 (0, 0)) := R1
    have F1 : FltR (W.setCell ⟨w.heap.size, 0, none⟩ (.bool neg)) b p m a 1 neg v (k : Int) := (heap_setCell_other _ _ _ _ (by simpa using hne)).trans hF
    have s1 : (W.setCell ⟨w.heap.size, 0, none⟩ (.bool neg)).cell? ⟨w.heap.size, 1, none⟩ = some (.slice none 0 0) := (row_at (i := 1) R1c rfl).1
    obtain ⟨d0, d1, d2, d3, d4, d5, d6⟩ := F1.cells
    have HR1 := Lib.hid R1c
    have HB2 := Lib.hid hB2
    have hsz : w.heap.size ≤ (W.setCell ⟨w.heap.size, 0, none⟩ (.bool neg)).heap.size := hB2.size
    have fin : ∀ (nq : Nat) (w2 : World) (r : Value) (N : Nat), Own w2 (W.setCell ⟨w.heap.size, 0, none⟩ (.bool neg)).heap.size 115 r (cellsW (wds N)) → Below (W.setCell ⟨w.heap.size, 0, none⟩ (.bool neg)).heap.size ((W.setCell ⟨w.heap.size, 0, none⟩ (.bool neg)).drewN nq) w2 →
        w2.frozen? ⟨w.heap.size, 1, none⟩ = false ∧ w2.cell? ⟨w.heap.size, 1, none⟩ = some (.slice none 0 0) ∧ IntP (w2.setCell ⟨w.heap.size, 1, none⟩ r) w.heap.size w.heap.size neg N ∧ Below w.heap.size w (w2.setCell ⟨w.heap.size, 1, none⟩ r) := fun nq w2 r N ho hb => by
      have hrow2 : w2.heap[w.heap.size]? = some (.cells #[.bool neg, .slice none 0 0] 109 (0, 0)) := keep_row (undrewN hb) HR1.out
      refine ⟨frozen_of_row w2 _ 1 _ _ hrow2, (row_at (i := 1) hrow2 rfl).1, intP_of (v := r) (Nat.le_refl _) (rowset (i := 1) r hrow2) ((ho.mono hsz).away hrow2 (by decide) 1 r), bset (HB2.out.trans ((undrewN hb).mono hsz)) (Nat.le_refl _)⟩
    have FIN := Lib.hid fin
    have tk : decide (L * 64 < k) = false := decide_eq_false (by omega)
    have tk' : decide ((L : Int) * 64 < (k : Int)) = false := decide_eq_false (by omega)
    clear fin R1 R1c hB2 hB1 hR hF F1
    by_cases hkL : k < L * 64
    · have t2 : decide (k < L * 64) = true := decide_eq_true hkL
      have t2' : decide ((k : Int) < (L : Int) * 64) = true := decide_eq_true (by omega)
      have es : (L : Int) * 64 - (k : Int) = ((L * 64 - k : Nat) : Int) := by omega
      obtain ⟨s, hs⟩ : ∃ s, s = L * 64 - k := ⟨_, rfl⟩
      rw [← hs] at es
      have hs0 : 0 < s := by omega
      have hsl : s < 64 * L := by omega
      have HS := Lib.hid (show s = 64 * L - k by omega)
      clear hs hkL
      go_wp2_with fail
      (refine wp_region_hoist 12 (by kernel_rfl) (by kernel_rfl) ⟨fun _ _ _ h => (by first | exact (hQp _ _ _ h).elim | cases h.2.1 | (obtain ⟨_, h3, _⟩ := h.2; cases h3)), fun _ _ h => (by first | exact (hQo _ _ h).elim | cases h.1 | (obtain ⟨_, h3, _⟩ := h; cases h3))⟩ ?_; simp only [List.take_succ_cons, List.take_zero, List.drop_succ_cons, List.drop_zero]; (repeat (go_big_quiet_step (fail))); refine wpQuiet_nil ?_; rintro _ ⟨nq, rfl⟩)
      go_wp2_with fail
      refine (rsh_nil v ws s _ ((HV.out.below HB2.out).below (undrewN' (Below.refl _ _))) (by rw [← HLL.out]; exact hl) hs0 (by rw [← HLL.out]; exact hsl)).mono ?_
      rintro _ w2 ⟨r, rfl, ho, hb⟩
      have hSr := ho.isS
      obtain ⟨g1, g2, g3, g4⟩ := FIN.out nq w2 r _ ho hb
      have G3 := Lib.hid g3
      have G4 := Lib.hid g4
      clear g3 g4 ho hb
      go_wp2
      go_ret2
      refine ⟨w.heap.size, by rw [← HAA.out]; rfl, ?_, G4.out⟩
      rw [← HS.out]; exact G3.out
    · have t2 : decide (k < L * 64) = false := decide_eq_false hkL
      have t2' : decide ((k : Int) < (L : Int) * 64) = false := decide_eq_false (by omega)
      have HKE := Lib.hid (show 64 * L - k = 0 by omega)
      clear hkL
      go_wp2_with fail
      (refine wp_region_hoist 9 (by kernel_rfl) (by kernel_rfl) ⟨fun _ _ _ h => (by first | exact (hQp _ _ _ h).elim | cases h.2.1 | (obtain ⟨_, h3, _⟩ := h.2; cases h3)), fun _ _ h => (by first | exact (hQo _ _ h).elim | cases h.1 | (obtain ⟨_, h3, _⟩ := h; cases h3))⟩ ?_; simp only [List.take_succ_cons, List.take_zero, List.drop_succ_cons, List.drop_zero]; (repeat (go_big_quiet_step (fail))); refine wpQuiet_nil ?_; rintro _ ⟨nq, rfl⟩)
      go_wp2_with fail
      refine (set_nil v ws _ ((HV.out.below HB2.out).below (undrewN' (Below.refl _ _))) (by rw [← HLL.out]; omega)).mono ?_
      rintro _ w2 ⟨r, rfl, ho, hb⟩
      have hSr := ho.isS
      rw [HWS.out] at ho
      obtain ⟨g1, g2, g3, g4⟩ := FIN.out nq w2 r _ ho hb
      have G3 := Lib.hid g3
      have G4 := Lib.hid g4
      clear g3 g4 ho hb
      go_wp2
      go_ret2
      refine ⟨w.heap.size, by rw [← HAA.out]; rfl, ?_, G4.out⟩
      rw [HKE.out, Nat.pow_zero, Nat.div_one]; exact G3.out
end Go.Proofs.YtjgkmnmemjebbaaDoor

/-
Floats: what is told of one; MantExp. No condition.
-/
namespace Go.Proofs.YtjgkmnmemjebbaaDoor
open Go.RowKit

section
variable {b p m f : Nat} {a e : Int} {neg : Bool} {v : Value} {w : World}
set_option maxRecDepth 100000 in
theorem fPrec (h : FltR w b p m a f neg v e) (hp : p ≤ 64000000) : Calls Tryd.prog 74 #[.pointer (some ⟨b, 0, none⟩)] w fun e' w' => e' = .returned (.int .u64 p) ∧ w = w' := by
  obtain ⟨c0, c1, c2, c3, c4, c5, c6⟩ := h.cells
  clear h
  go_enter Tryd.func74, Tryd.ntmps74
  go_wp2
  go_ret
  exact ⟨rfl, rfl⟩
set_option maxRecDepth 100000 in
theorem fMode (h : FltR w b p m a f neg v e) : Calls Tryd.prog 75 #[.pointer (some ⟨b, 0, none⟩)] w fun e' w' => e' = .returned (.int .u8 m) ∧ w = w' := by
  obtain ⟨c0, c1, c2, c3, c4, c5, c6⟩ := h.cells
  clear h
  go_enter Tryd.func75, Tryd.ntmps75
  go_wp2
  go_ret
  exact ⟨rfl, rfl⟩
set_option maxRecDepth 100000 in
theorem fAcc (h : FltR w b p m a f neg v e) : Calls Tryd.prog 63 #[.pointer (some ⟨b, 0, none⟩)] w fun e' w' => e' = .returned (.int .i8 a) ∧ w = w' := by
  obtain ⟨c0, c1, c2, c3, c4, c5, c6⟩ := h.cells
  clear h
  go_enter Tryd.func63, Tryd.ntmps63
  go_wp2
  go_ret
  exact ⟨rfl, rfl⟩
set_option maxRecDepth 100000 in
theorem fIsInf (h : FltR w b p m a f neg v e) : Calls Tryd.prog 77 #[.pointer (some ⟨b, 0, none⟩)] w fun e' w' => e' = .returned (.bool (decide (f = 2))) ∧ w = w' := by
  obtain ⟨c0, c1, c2, c3, c4, c5, c6⟩ := h.cells
  have t : ((f : Int) == 2) = decide (f = 2) := by
    by_cases hf : f = 2
    · rw [hf]; rfl
    · rw [decide_eq_false hf, beq_eq_false_iff_ne]; omega
  obtain ⟨B, hB⟩ : ∃ B, B = decide (f = 2) := ⟨_, rfl⟩
  rw [← hB] at t ⊢
  clear h hB
  go_enter Tryd.func77, Tryd.ntmps77
  go_wp2
  go_ret
  exact ⟨rfl, rfl⟩
end
set_option maxRecDepth 100000 in
set_option maxHeartbeats 1600000 in
theorem mantExp_one (b B c p0 m0 f0' p m : Nat) (a0 e0 a e : Int) (n0 neg : Bool) (v : Value) (ws : List Nat) (w : World) (h : FltR w b p0 m0 a0 f0' n0 (.slice none 0 0) e0) (hB : B ≤ b) (hx : FltR w c p m a 1 neg v e) (hbc : b ≠ c)
    {Bx : Nat} (ho : Own w Bx 115 v (cellsW ws)) (hd : ∀ d ∈ ws, d < 18446744073709551616) (hl : ws.length ≤ 1000000) (he1 : -2147483648 ≤ e) (he2 : e ≤ 2147483647) :
    Calls Tryd.prog 47 #[.pointer (some ⟨c, 0, none⟩), .pointer (some ⟨b, 0, none⟩)] w fun e' w' => e' = .returned (.int .i64 e) ∧ ∃ r, FltR w' b p m a 1 neg r 0 ∧ Own w' B 115 r (cellsW ws) ∧ Below B w w' := by
  obtain ⟨c0, c1, c2, c3, c4, c5, c6⟩ := hx.cells
  have c3' : w.cell? ⟨c, 3, none⟩ = some (.int .u8 1) := c3
  have HC := Lib.hid (copyF b B c p0 m0 f0' p m a0 e0 a e n0 neg v ws w h hB hx hbc ho hd hl)
  clear h hx ho hd c3
  go_enter Tryd.func47, Tryd.ntmps47
  go_wp2_with fail
  refine HC.out.mono ?_
  rintro _ w1 ⟨rfl, r, h1, h2, h3⟩
  obtain ⟨d0, d1, d2, d3, d4, d5, d6⟩ := h1.cells
  have d3' : w1.cell? ⟨b, 3, none⟩ = some (.int .u8 1) := d3
  obtain ⟨f0, f1, f2, f3, f4, f5, f6⟩ := h1.free
  have R := Lib.hid (h1.s6 0)
  have O := Lib.hid (h1.own h2 6 (.int .i32 (0 : Int)))
  have BB := Lib.hid (bset (i := 6) (u := .int .i32 (0 : Int)) h3 hB)
  clear h1 h2 h3 d3
  go_wp2
  go_ret
  exact ⟨rfl, r, R.out, O.out, BB.out⟩
/-- A Real that a Float has. -/
def RealV (w : World) (z : Value) (p m f : Nat) (neg : Bool) (M : Nat) (X : Int) : Prop :=
  ∃ (v : Value) (E : Int) (zs : List Nat) (B : Nat), z = .agg #[.int .u64 p, .int .i64 m, .int .i64 f, .bool neg, v, .int .i64 E] ∧ Own w B 23 v (cellsW zs) ∧ (∀ d ∈ zs, d < 18446744073709551616) ∧ (f ≠ 1 → zs = [] ∧ E = 0) ∧ (f = 1 → zs = wds (od M) ∧ E = X + (tz M : Nat))
end Go.Proofs.YtjgkmnmemjebbaaDoor

/-
The thin package's integers: wordsOf, told. No condition.
-/
namespace Go.Proofs.YtjgkmnmemjebbaaDoor
open Go.RowKit

def WoU (ws : List Nat) (B k : Nat) (w : World) (v : Value) (wr : World) : Prop := Own wr B 23 v (cellsW (ws.take k)) ∧ Below B w wr
theorem WoU.step {ws : List Nat} {B k : Nat} {w w1 : World} {v1 : Value} (hk : k < ws.length) (h : Own w1 B 23 v1 (cellsW (ws.take k) ++ [.int .u64 ((ws.getD k 0 : Nat) : Int)])) (hb : Below B w w1) : WoU ws B (k + 1) w v1 w1 := by
  refine ⟨?_, hb⟩
  rw [cellsW_snoc] at h
  rw [List.take_succ_eq_append_getElem hk]
  simpa [List.getD_eq_getElem?_getD, List.getElem?_eq_getElem hk] using h
set_option maxRecDepth 100000 in
set_option maxHeartbeats 800000 in
theorem wordsOf_any (b o : Nat) (v : Value) (ws : List Nat) (w : World) (hc : w.cell? ⟨b, o + 1, none⟩ = some v) (hv : RW w v ws) (hl : ws.length ≤ 100000000) :
    Calls Tryd.prog 79 #[.pointer (some ⟨b, o, none⟩)] w fun e w' => ∃ r, e = .returned r ∧ Own w' w.heap.size 23 r (cellsW ws) ∧ Below w.heap.size w w' := by
  have hSv := hv.isS
  have hLv := hv.len
  obtain ⟨la, hla⟩ : ∃ la, la = ws.length := ⟨_, rfl⟩
  rw [← hla] at hLv hl
  have Hla := Lib.hid hla
  have Hv := Lib.hid hv
  clear hla hv
  go_enter Tryd.func79, Tryd.ntmps79
  go_wp2_with fail
  refine (intBits b o v w hc hSv).mono ?_
  rintro _ _ ⟨rfl, rfl⟩
  go_wp2
  go_loopw [3, 9] (fun v i wr => ∃ k : Nat, k ≤ la ∧ i = .int .i64 k ∧ WoU ws w.heap.size k w v wr) (fun _ i _ => la - (intOf i).toNat)
  case atStart => exact ⟨0, Nat.zero_le _, rfl, Own.nil _ _ _, Below.refl _ _⟩
  case round =>
    obtain ⟨i, hi, rfl, hO, hbl⟩ := hrel
    have hbz := hbl.size
    have hSo : IsS u3 := hO.isS
    have HO := Lib.hid hO
    clear hO
    by_cases hia : i < la
    · have ca := (Hv.out.below hbl).cell i (by rw [← Hla.out]; exact hia)
      obtain ⟨d, hd⟩ : ∃ d, d = ws.getD i 0 := ⟨_, rfl⟩
      rw [← hd] at ca
      have Hd := Lib.hid hd
      clear hd
      have hlk : (cellsW (ws.take i)).length = i := by rw [cellsW_length]; have := Hla.out; simp; omega
      have Hlk := Lib.hid hlk
      clear hlk
      go_wp2_with (at_builtin; refine wpList_append_O rfl _ _ _ _ rfl elemU w.heap.size _ _ rfl (HO.out.alloc _) _ rfl 1 [.int .u64 (d : Int)] (srcOne Tryd.underlying24 wr _ _) ?c3 ?c4 ?c5 ?_)
      case c3 => rw [Hlk.out]; unfold maxLen; omega
      case c4 => rw [Hlk.out]; omega
      case c5 => simp; omega
      rintro v1 w1 ho1 hb1 - - -
      have hs := WoU.step (by rw [← Hla.out]; exact hia) (by rw [← Hd.out]; exact ho1) ((hbl.alloc hbz _).trans hb1)
      have Hs := Lib.hid hs
      clear hs ho1
      go_wp2
      go_roundw
      case rel => exact ⟨i + 1, by omega, by go_num, Hs.out⟩
      case measure => simp [intOf]; omega
    · have hil : i = la := by omega
      subst hil
      have hfull : ws.take i = ws := List.take_of_length_le (by rw [Hla.out]; exact Nat.le_refl _)
      have ho := HO.out
      rw [hfull] at ho
      have Ho := Lib.hid ho
      clear hfull ho
      go_wp2
      go_ret
      exact ⟨_, rfl, Ho.out, hbl⟩
theorem sgn_lt (neg : Bool) (n : Nat) : decide (sgnI neg (nw n) < 0) = (neg && decide (0 < n)) := by
  rcases Nat.eq_zero_or_pos n with h | h
  · subst h; cases neg <;> rfl
  · have := nw_pos h
    unfold sgnI
    rw [if_neg (by omega)]
    cases neg
    · rfl
    · simp [h]
set_option maxRecDepth 100000 in
theorem told_any (b o : Nat) (neg : Bool) (v : Value) (n : Nat) (w : World) (h0 : w.cell? ⟨b, o, none⟩ = some (.bool neg)) (hc : w.cell? ⟨b, o + 1, none⟩ = some v) (hv : RW w v (wds n)) (hl : nw n ≤ 100000000) :
    Calls Tryd.prog 57 #[.pointer (some ⟨b, o, none⟩)] w fun e w' => ∃ r, e = .returned (.agg #[.bool (neg && decide (0 < n)), r]) ∧ Own w' w.heap.size 23 r (cellsW (wds n)) ∧ Below w.heap.size w w' := by
  have hSv := hv.isS
  have hLv := hv.len
  rw [wds_length] at hLv
  have hlt := World.block_lt_of_cell? w _ hc
  have Hv := Lib.hid hv
  clear hv
  have hab := (Below.refl w.heap.size w).alloc (Nat.le_refl _) (.cells #[.bool false, .slice none 0 0] 58)
  have hrow0 := box_row (Below.refl _ (w.alloc (.cells #[.bool false, .slice none 0 0] 58)))
  obtain ⟨W, hW⟩ : ∃ W, W = w.alloc (.cells #[.bool false, .slice none 0 0] 58) := ⟨_, rfl⟩
  rw [← hW] at hab hrow0
  have h0' := (hab.cell (p := ⟨b, o, none⟩) hlt).trans h0
  have hc' := (hab.cell (p := ⟨b, o + 1, none⟩) hlt).trans hc
  have HR := Lib.hid hrow0
  have hWs := hab.size
  clear hrow0
  have t1 := sgn_lt neg n
  obtain ⟨x, hx⟩ : ∃ x, x = (neg && decide (0 < n)) := ⟨_, rfl⟩
  obtain ⟨z, hz⟩ : ∃ z, z = sgnI neg (nw n) := ⟨_, rfl⟩
  rw [← hx]
  rw [← hx, ← hz] at t1
  have hzb : -1 ≤ z ∧ z ≤ 1 := by rw [hz]; unfold sgnI; split <;> (try split) <;> omega
  obtain ⟨hz1, hz2⟩ := hzb
  have HZ := Lib.hid hz
  clear hx hz
  go_enter Tryd.func57, Tryd.ntmps57
  go_upto_region 1 with fail
  rw [← hW]
  clear hW
  go_wp2_with fail
  refine (intSign b o neg v W h0' hc' hSv).mono ?_
  rintro _ _ ⟨rfl, rfl⟩
  rw [hLv]
  have Z := HZ.out
  rw [← Z]
  clear Z h0 hc h0' hLv
  go_wp2_with fail
  refine (wordsOf_any b o v (wds n) W hc' (Hv.out.below hab) (by rw [wds_length]; exact hl)).mono ?_
  rintro _ w2 ⟨r, rfl, hr, hb2⟩
  have hSr := hr.isS
  have hrow2 := keep_row hb2 HR.out
  have k0 := row_at (i := 0) hrow2 rfl
  have k1 := row_at (i := 1) hrow2 rfl
  obtain ⟨k00, k01⟩ := k0
  obtain ⟨k10, k11⟩ := k1
  have q2 := rowset (i := 1) r (rowset (i := 0) (.bool x) hrow2)
  have e0 := (row_at (i := 0) q2 rfl).1
  have e1 := (row_at (i := 1) q2 rfl).1
  have o1 := ((hr.away hrow2 (by decide) 0 (.bool x)).away (rowset (i := 0) (.bool x) hrow2) (by decide) 1 r).mono hWs
  have b1 := bset (i := 1) (u := r) (bset (i := 0) (u := .bool x) (hab.trans (hb2.mono hWs)) (Nat.le_refl _)) (Nat.le_refl _)
  have O1 := Lib.hid o1
  have B1 := Lib.hid b1
  clear hr hrow2 q2 o1 b1
  go_wp2
  refine bodyPost_ret (v := .agg #[.bool x, r]) ?_ rfl ⟨r, rfl, O1.out, B1.out⟩
  simp [results, Tryd.results57, go_sem, e0, e1]
end Go.Proofs.YtjgkmnmemjebbaaDoor

/-
The thin package's real. No condition.
-/
namespace Go.Proofs.YtjgkmnmemjebbaaDoor
open Go.RowKit

theorem row6_set {w : World} {k T : Nat} {a b c d e f x y z x' y' z' : Value} (h : w.heap[k]? = some (.cells #[a, b, c, d, e, f] T (0, 0))) :
    ((((((w.setCell ⟨k, 0, none⟩ x).setCell ⟨k, 1, none⟩ y).setCell ⟨k, 2, none⟩ z).setCell ⟨k, 3, none⟩ x').setCell ⟨k, 4, none⟩ y').setCell ⟨k, 5, none⟩ z').heap[k]? = some (.cells #[x, y, z, x', y', z'] T (0, 0)) :=
  rowset (i := 5) z' (rowset (i := 4) y' (rowset (i := 3) x' (rowset (i := 2) z (rowset (i := 1) y (rowset (i := 0) x h)))))
theorem row6 {w : World} {k T : Nat} {a b c d e f : Value} (h : w.heap[k]? = some (.cells #[a, b, c, d, e, f] T (0, 0))) :
    (w.cell? ⟨k, 0, none⟩ = some a ∧ w.cell? ⟨k, 1, none⟩ = some b ∧ w.cell? ⟨k, 2, none⟩ = some c ∧ w.cell? ⟨k, 3, none⟩ = some d ∧ w.cell? ⟨k, 4, none⟩ = some e ∧ w.cell? ⟨k, 5, none⟩ = some f) ∧
    (w.frozen? ⟨k, 0, none⟩ = false ∧ w.frozen? ⟨k, 1, none⟩ = false ∧ w.frozen? ⟨k, 2, none⟩ = false ∧ w.frozen? ⟨k, 3, none⟩ = false ∧ w.frozen? ⟨k, 4, none⟩ = false ∧ w.frozen? ⟨k, 5, none⟩ = false) :=
  ⟨⟨(row_at (i := 0) h rfl).1, (row_at (i := 1) h rfl).1, (row_at (i := 2) h rfl).1, (row_at (i := 3) h rfl).1, (row_at (i := 4) h rfl).1, (row_at (i := 5) h rfl).1⟩,
   ⟨(row_at (i := 0) h rfl).2, (row_at (i := 1) h rfl).2, (row_at (i := 2) h rfl).2, (row_at (i := 3) h rfl).2, (row_at (i := 4) h rfl).2, (row_at (i := 5) h rfl).2⟩⟩
theorem bset6 {W w : World} {B k : Nat} {x y z x' y' z' : Value} (h : Below B W w) (hk : B ≤ k) :
    Below B W ((((((w.setCell ⟨k, 0, none⟩ x).setCell ⟨k, 1, none⟩ y).setCell ⟨k, 2, none⟩ z).setCell ⟨k, 3, none⟩ x').setCell ⟨k, 4, none⟩ y').setCell ⟨k, 5, none⟩ z') :=
  bset (bset (bset (bset (bset (bset h hk) hk) hk) hk) hk) hk
theorem RW.nil (w : World) : RW w (.slice none 0 0) [] := ⟨⟨IsS.nil, rfl, fun i hi => by simp [ints] at hi⟩, fun d hd => by cases hd⟩
theorem heap6_other {w : World} {k j : Nat} {x y z x' y' z' : Value} (h : j ≠ k) :
    ((((((w.setCell ⟨k, 0, none⟩ x).setCell ⟨k, 1, none⟩ y).setCell ⟨k, 2, none⟩ z).setCell ⟨k, 3, none⟩ x').setCell ⟨k, 4, none⟩ y').setCell ⟨k, 5, none⟩ z').heap[j]? = w.heap[j]? := by
  rw [heap_setCell_other _ _ _ _ (by simpa using h), heap_setCell_other _ _ _ _ (by simpa using h), heap_setCell_other _ _ _ _ (by simpa using h), heap_setCell_other _ _ _ _ (by simpa using h), heap_setCell_other _ _ _ _ (by simpa using h), heap_setCell_other _ _ _ _ (by simpa using h)]
theorem realV_other (w : World) (p m f : Nat) (neg : Bool) (M : Nat) (X : Int) (hf : f ≠ 1) : RealV w (.agg #[.int .u64 p, .int .i64 m, .int .i64 f, .bool neg, .slice none 0 0, .int .i64 0]) p m f neg M X :=
  ⟨.slice none 0 0, 0, [], 0, rfl, Own.nil _ _ _, (fun d hd => by cases hd), fun _ => ⟨rfl, rfl⟩, fun h => absurd h hf⟩
set_option maxRecDepth 100000 in
set_option maxHeartbeats 3200000 in
theorem real_other (b p m f : Nat) (a e : Int) (neg : Bool) (v : Value) (w : World) (h : FltR w b p m a f neg v e) (hf : f = 0 ∨ f = 2) (hp : p ≤ 64000000) (hm : m ≤ 255) (M : Nat) (X : Int) :
    Calls Tryd.prog 48 #[.pointer (some ⟨b, 0, none⟩)] w fun e' w' => ∃ z, e' = .returned z ∧ RealV w' z p m f neg M X ∧ Below w.heap.size w w' := by
  have hab := (Below.refl w.heap.size w).alloc (Nat.le_refl _) (.cells #[.int .u64 0, .int .i64 0, .int .i64 0, .bool false, .slice none 0 0, .int .i64 0] 26)
  obtain ⟨Y, hY⟩ : ∃ Y, Y = w.alloc (.cells #[.int .u64 0, .int .i64 0, .int .i64 0, .bool false, .slice none 0 0, .int .i64 0] 26) := ⟨_, rfl⟩
  have hr1 : Y.heap[w.heap.size]? = some (.cells #[.int .u64 0, .int .i64 0, .int .i64 0, .bool false, .slice none 0 0, .int .i64 0] 26 (0, 0)) := by rw [hY]; exact box_row (Below.refl _ _)
  rw [← hY] at hab
  have hF := Lib.hid (h.below hab)
  have HR1 := Lib.hid hr1
  have HAB := Lib.hid hab
  have hYs : Y.heap.size = w.heap.size + 1 := by rw [hY]; simp
  have hlt := h.lt
  clear h hr1 hab
  go_enter Tryd.func48, Tryd.ntmps48
  go_upto_region 1 with fail
  rw [← hY]
  clear hY
  go_wp2_with fail
  refine (fPrec hF.out hp).mono ?_
  rintro _ _ ⟨rfl, rfl⟩
  go_wp2_with fail
  refine (fMode hF.out).mono ?_
  rintro _ _ ⟨rfl, rfl⟩
  go_wp2_with fail
  refine (fSignbit b p m f a e neg v Y hF.out).mono ?_
  rintro _ _ ⟨rfl, rfl⟩
  obtain ⟨Z, hZ⟩ : ∃ Z, Z = Y.alloc (.cells #[.int .u64 p, .int .i64 m, .int .i64 0, .bool neg, .slice none 0 0, .int .i64 0] 26) := ⟨_, rfl⟩
  have hb2 : Below Y.heap.size Y Z := by rw [hZ]; exact fbone _
  have hr2 : Z.heap[Y.heap.size]? = some (.cells #[.int .u64 p, .int .i64 m, .int .i64 0, .bool neg, .slice none 0 0, .int .i64 0] 26 (0, 0)) := by rw [hZ]; exact box_row (Below.refl _ _)
  have hFZ := Lib.hid (hF.out.below hb2)
  have hr1 := keep_row hb2 HR1.out
  have HB2 := Lib.hid (HAB.out.trans (hb2.mono HAB.out.size))
  go_upto_region 2 with fail
  rw [← hZ]
  clear hZ hb2
  obtain ⟨⟨x0, x1, x2, x3, x4, x5⟩, g0, g1, g2, g3, g4, g5⟩ := row6 hr1
  obtain ⟨⟨y0, y1, y2, y3, y4, y5⟩, k0, k1, k2, k3, k4, k5⟩ := row6 hr2
  have HZ1 := Lib.hid hr1
  have HZ2 := Lib.hid hr2
  clear hr1 hr2
  rw [hYs] at y0 y1 y2 y3 y4 y5 k0 k1 k2 k3 k4 k5 HZ2
  go_wp2_with fail
  refine (fIsInf hFZ.out).mono ?_
  rintro _ _ ⟨rfl, rfl⟩
  rcases hf with rfl | rfl
  · dsimp only
    rw [show decide (0 = 2) = false from rfl]
    go_wp2_with fail
    refine (fSign b p m 0 a e neg v Z hFZ.out).mono ?_
    rintro _ _ ⟨rfl, rfl⟩
    rw [show sgF 0 neg = 0 from rfl]
    go_wp2_with fail
    have HS := row6_set (x := .int .u64 (p : Int)) (y := .int .i64 (m : Int)) (z := .int .i64 0) (x' := .bool neg) (y' := .slice none 0 0) (z' := .int .i64 0) HZ1.out
    have HB := bset6 (x := .int .u64 (p : Int)) (y := .int .i64 (m : Int)) (z := .int .i64 0) (x' := .bool neg) (y' := .slice none 0 0) (z' := .int .i64 0) HB2.out (Nat.le_refl _)
    obtain ⟨⟨a0, a1, a2, a3, a4, a5⟩, -⟩ := row6 HS
    refine bodyPost_ret (v := .agg #[.int .u64 p, .int .i64 m, .int .i64 0, .bool neg, .slice none 0 0, .int .i64 0]) ?_ rfl ⟨_, rfl, realV_other _ p m _ neg M X (by decide), HB⟩
    simp [results, Tryd.results48, go_sem, a0, a1, a2, a3, a4, a5]
  · dsimp only
    rw [show decide (2 = 2) = true from rfl]
    have hq2 := rowset (i := 2) (.int .i64 2) HZ2.out
    have hq2' : (Z.setCell ⟨w.heap.size + 1, 2, none⟩ (.int .i64 2)).heap[w.heap.size + 1]? = some (.cells #[.int .u64 p, .int .i64 m, .int .i64 2, .bool neg, .slice none 0 0, .int .i64 0] 26 (0, 0)) := hq2
    have hq1 : (Z.setCell ⟨w.heap.size + 1, 2, none⟩ (.int .i64 2)).heap[w.heap.size]? = _ := (heap_setCell_other _ _ _ _ (by simp)).trans HZ1.out
    obtain ⟨⟨z0, z1, z2, z3, z4, z5⟩, -⟩ := row6 hq2'
    obtain ⟨⟨v0, v1, v2, v3, v4, v5⟩, h0, h1, h2, h3, h4, h5⟩ := row6 hq1
    have HQ1 := Lib.hid hq1
    have HBB := Lib.hid (bset (i := 2) (u := .int .i64 2) HB2.out (Nat.le_succ _))
    clear hq1 hq2 hq2'
    go_wp2_with fail
    have HS := row6_set (x := .int .u64 (p : Int)) (y := .int .i64 (m : Int)) (z := .int .i64 2) (x' := .bool neg) (y' := .slice none 0 0) (z' := .int .i64 0) HQ1.out
    have HB := bset6 (x := .int .u64 (p : Int)) (y := .int .i64 (m : Int)) (z := .int .i64 2) (x' := .bool neg) (y' := .slice none 0 0) (z' := .int .i64 0) HBB.out (Nat.le_refl _)
    obtain ⟨⟨a0, a1, a2, a3, a4, a5⟩, -⟩ := row6 HS
    refine bodyPost_ret (v := .agg #[.int .u64 p, .int .i64 m, .int .i64 2, .bool neg, .slice none 0 0, .int .i64 0]) ?_ rfl ⟨_, rfl, realV_other _ p m _ neg M X (by decide), HB⟩
    simp [results, Tryd.results48, go_sem, a0, a1, a2, a3, a4, a5]
set_option maxRecDepth 100000 in
set_option maxHeartbeats 6400000 in
theorem real_one (b p m : Nat) (a e : Int) (neg : Bool) (v : Value) (ws : List Nat) (w : World) {Bx : Nat} (h : FltR w b p m a 1 neg v e) (ho : Own w Bx 115 v (cellsW ws)) (hg : Good ws p) (hp0 : 0 < p) (hp : p ≤ 64000000) (hm : m ≤ 255) (M : Nat) (X : Int) (hM : 0 < M)
    (hq : deq (wv ws) (e - 64 * (ws.length : Int)) M X) (he1 : -1000000000 ≤ e) (he2 : e ≤ 1000000000) (hT : TabW w) :
    Calls Tryd.prog 48 #[.pointer (some ⟨b, 0, none⟩)] w fun e' w' => ∃ z, e' = .returned z ∧ RealV w' z p m 1 neg M X ∧ Below w.heap.size w w' := by
  have hab := (Below.refl w.heap.size w).alloc (Nat.le_refl _) (.cells #[.int .u64 0, .int .i64 0, .int .i64 0, .bool false, .slice none 0 0, .int .i64 0] 26)
  obtain ⟨Y, hY⟩ : ∃ Y, Y = w.alloc (.cells #[.int .u64 0, .int .i64 0, .int .i64 0, .bool false, .slice none 0 0, .int .i64 0] 26) := ⟨_, rfl⟩
  have hr1 : Y.heap[w.heap.size]? = some (.cells #[.int .u64 0, .int .i64 0, .int .i64 0, .bool false, .slice none 0 0, .int .i64 0] 26 (0, 0)) := by rw [hY]; exact box_row (Below.refl _ _)
  rw [← hY] at hab
  have hF := Lib.hid (h.below hab)
  have HR1 := Lib.hid hr1
  have HAB := Lib.hid hab
  have hYs : Y.heap.size = w.heap.size + 1 := by rw [hY]; simp
  have hlt := h.lt
  have hbl := hg.bl
  obtain ⟨hl0, hl, hd, htop, hfit⟩ := hg
  have hw0 := hq.symm.pos hM
  have hod := hq.od hw0
  have hbo := bl_od hw0
  have HO := Lib.hid (ho.below hab)
  have HT := Lib.hid (hT.below hab)
  have HD := Lib.hid hd
  have HF := Lib.hid hfit
  have HBL := Lib.hid hbl
  obtain ⟨N, hN⟩ : ∃ N, N = wv ws := ⟨_, rfl⟩
  obtain ⟨P, hP⟩ : ∃ P, P = bl (od (wv ws)) := ⟨_, rfl⟩
  obtain ⟨L, hL⟩ : ∃ L, L = ws.length := ⟨_, rfl⟩
  have hP0 : 0 < P := by rw [hP]; exact bl_pos (od_pos hw0)
  have hPL : P ≤ 64 * L := by rw [hP, hL, ← hbl]; omega
  have HE : Hid (e - (P : Int) = X + (tz M : Nat)) := Lib.hid (by have := hod.2; rw [hbl] at hbo; omega)
  have HOD : Hid (wv ws / 2 ^ (64 * ws.length - P) = od M) := Lib.hid (by
    rw [← hod.1, show 64 * ws.length - P = tz (wv ws) by rw [hbl] at hbo; omega]; rfl)
  have HW0 := Lib.hid hw0
  have HP := Lib.hid hP
  have HL := Lib.hid hL
  rw [← hL] at hl0 hl
  have hPb : P ≤ 64000000 := by omega
  clear h hr1 hab ho hT hd htop hfit hq hbl hod hbo hN hP hL hw0
  go_enter Tryd.func48, Tryd.ntmps48
  go_upto_region 1 with fail
  rw [← hY]
  clear hY
  go_wp2_with fail
  refine (fPrec hF.out hp).mono ?_
  rintro _ _ ⟨rfl, rfl⟩
  go_wp2_with fail
  refine (fMode hF.out).mono ?_
  rintro _ _ ⟨rfl, rfl⟩
  go_wp2_with fail
  refine (fSignbit b p m 1 a e neg v Y hF.out).mono ?_
  rintro _ _ ⟨rfl, rfl⟩
  obtain ⟨Z, hZ⟩ : ∃ Z, Z = Y.alloc (.cells #[.int .u64 p, .int .i64 m, .int .i64 0, .bool neg, .slice none 0 0, .int .i64 0] 26) := ⟨_, rfl⟩
  have hb2 : Below Y.heap.size Y Z := by rw [hZ]; exact fbone _
  have hr2 : Z.heap[Y.heap.size]? = some (.cells #[.int .u64 p, .int .i64 m, .int .i64 0, .bool neg, .slice none 0 0, .int .i64 0] 26 (0, 0)) := by rw [hZ]; exact box_row (Below.refl _ _)
  have hFZ := Lib.hid (hF.out.below hb2)
  have HZ1 := Lib.hid (keep_row hb2 HR1.out)
  have HB2 := Lib.hid (HAB.out.trans (hb2.mono HAB.out.size))
  have HO2 := Lib.hid (HO.out.below hb2)
  have HT2 := Lib.hid (HT.out.below hb2)
  go_upto_region 2 with fail
  rw [← hZ]
  rw [hYs] at hr2
  have HZ2 := Lib.hid hr2
  have hZs : w.heap.size + 2 ≤ Z.heap.size := by rw [hZ]; simp; omega
  clear hZ hb2 hr2 HO HT HR1 hF HAB
  go_wp2_with fail
  refine (fIsInf hFZ.out).mono ?_
  rintro _ _ ⟨rfl, rfl⟩
  dsimp only
  rw [show decide (1 = 2) = false from rfl]
  go_wp2_with fail
  refine (fSign b p m 1 a e neg v Z hFZ.out).mono ?_
  rintro _ _ ⟨rfl, rfl⟩
  obtain ⟨sg, hsg⟩ : ∃ s, s = sgF 1 neg := ⟨_, rfl⟩
  have q1 : (sg != 0) = true := by rw [hsg]; cases neg <;> rfl
  rw [← hsg]
  clear hsg
  have hb3 : Below Z.heap.size Z (Z.alloc newF) := fbone _
  have HF3 := Lib.hid (hFZ.out.below hb3)
  have HO3 := Lib.hid (HO2.out.below hb3)
  have HT3 := Lib.hid (HT2.out.below hb3)
  have HN3 := Lib.hid (newF_row Z)
  have HB3 := Lib.hid hb3
  have hne3 : Z.heap.size ≠ b := by have := hFZ.out.lt; omega
  clear hb3
  go_wp2_with fail
  refine (mantExp_one Z.heap.size Z.heap.size b 0 0 0 p m 0 0 a e false neg v ws (Z.alloc newF) HN3.out (Nat.le_refl _) HF3.out hne3 HO3.out HD.out (by rw [← HL.out]; exact hl) (by omega) (by omega)).mono ?_
  rintro _ W4 ⟨rfl, r4, h4, o4, b4⟩
  have hb4 := HB3.out.trans b4
  have HF4 := Lib.hid (hFZ.out.below hb4)
  have HT4 := Lib.hid (HT2.out.below hb4)
  have HV4 := Lib.hid ((HO2.out.below hb4).rw' HD.out)
  have H4 := Lib.hid h4
  have O4 := Lib.hid o4
  have HB4 := Lib.hid hb4
  clear h4 o4 b4 hb4
  go_wp2_with fail
  refine (minPrec_one b p m a e neg v ws W4 HF4.out HV4.out HW0.out (by rw [← HL.out]; exact hl) HBL.out HT4.out).mono ?_
  rintro _ _ ⟨rfl, n5, rfl⟩
  rw [← HP.out]
  have H5 : FltR (W4.drewN n5) Z.heap.size p m a 1 neg r4 0 := H4.out
  have O5 : Own (W4.drewN n5) Z.heap.size 115 r4 (cellsW ws) := O4.out.drewN n5
  have B5 : Below Z.heap.size Z (W4.drewN n5) := undrewN' HB4.out
  have T5 : TabW (W4.drewN n5) := HT4.out
  obtain ⟨W5, hW5⟩ : ∃ W5, W5 = W4.drewN n5 := ⟨_, rfl⟩
  rw [← hW5] at H5 O5 B5 T5
  dsimp only
  rw [← hW5]
  clear hW5 H4 O4 HB4 HT4 HF4 HV4
  have b6 : Below W5.heap.size W5 (W5.alloc newF) := fbone _
  have H6 := Lib.hid (H5.below b6)
  have O6 := Lib.hid (O5.below b6)
  have B6 := Lib.hid (B5.trans (b6.mono B5.size))
  have T5h := Lib.hid T5
  have B5h := Lib.hid B5
  have N6 := Lib.hid (newF_row W5)
  have hne6 : W5.heap.size ≠ Z.heap.size := by have := H5.lt; omega
  have hs5 := B5.size
  clear H5 O5 B5 T5 b6
  go_wp2_with fail
  refine (setMantExp_exact W5.heap.size W5.heap.size Z.heap.size 0 0 0 p m 0 0 a 0 (P : Int) false neg r4 ws (W5.alloc newF) N6.out (Nat.le_refl _) H6.out hne6 O6.out HD.out HF.out (by rw [← HL.out]; exact hl0) (by rw [← HL.out]; exact hl) hp0 hp (by omega) (by omega) (by omega) (by omega)).mono ?_
  rintro _ W7 ⟨rfl, r7, h7, o7, b7⟩
  rw [Int.zero_add] at h7
  have b57 : Below W5.heap.size W5 W7 := (fbone (W := W5) newF).trans b7
  have H7 := Lib.hid h7
  have V7 := Lib.hid (o7.rw' HD.out)
  have T7 := Lib.hid (T5h.out.below b57)
  have B7 := Lib.hid (B5h.out.trans (b57.mono hs5))
  clear h7 o7 b7 b57
  go_wp2_with fail
  refine (floatInt_le W5.heap.size p m P 0 neg r7 ws W7 H7.out V7.out HW0.out (by rw [← HL.out]; exact hl) HBL.out T7.out hP0 (by rw [← HL.out]; exact hPL)).mono ?_
  rintro _ W8 ⟨g, rfl, hI, b8⟩
  rw [HOD.out] at hI
  obtain ⟨v8, hg8, row8, o8⟩ := hI
  have d1 : W8.cell? ⟨g, 0 + 1, none⟩ = some v8 := (row_at (i := 1) row8 rfl).1
  have V8 := Lib.hid (o8.rw' (wds_all _))
  have B8 := Lib.hid (B7.out.trans (b8.mono B7.out.size))
  have hN8 : Hid ((wds (od M)).length ≤ 100000000) := Lib.hid (by
    rw [wds_length, nw_bl (od_pos hM)]
    have h1 := HOD.out
    have h2 : bl (od M) ≤ bl (wv ws) := by rw [← h1]; exact bl_mono (Nat.div_le_self _ _)
    have := HBL.out; have := HL.out; omega)
  clear hg8 row8 o8 b8
  go_wp2_with fail
  refine (wordsOf_any g 0 v8 (wds (od M)) W8 d1 V8.out hN8.out).mono ?_
  rintro _ W9 ⟨r9, rfl, o9, b9⟩
  have hS9 := o9.isS
  have B9 := Lib.hid (B8.out.trans (b9.mono B8.out.size))
  have q1 := keep_row B9.out HZ1.out
  have q2 := keep_row B9.out HZ2.out
  have O9 := Lib.hid o9
  have BW9 := Lib.hid (HB2.out.trans (B9.out.mono (by omega)))
  obtain ⟨⟨x0, x1, x2, x3, x4, x5⟩, g0, g1, g2, g3, g4, g5⟩ := row6 q1
  obtain ⟨⟨y0, y1, y2, y3, y4, y5⟩, k0, k1, k2, k3, k4, k5⟩ := row6 q2
  have S2 := rowset (i := 5) (.int .i64 (e - (P : Int))) (rowset (i := 4) r9 (rowset (i := 2) (.int .i64 1) q2))
  have S2' : (((W9.setCell ⟨w.heap.size + 1, 2, none⟩ (.int .i64 1)).setCell ⟨w.heap.size + 1, 4, none⟩ r9).setCell ⟨w.heap.size + 1, 5, none⟩ (.int .i64 (e - (P : Int)))).heap[w.heap.size + 1]? = some (.cells #[.int .u64 p, .int .i64 m, .int .i64 1, .bool neg, r9, .int .i64 (e - (P : Int))] 26 (0, 0)) := S2
  have S1 : (((W9.setCell ⟨w.heap.size + 1, 2, none⟩ (.int .i64 1)).setCell ⟨w.heap.size + 1, 4, none⟩ r9).setCell ⟨w.heap.size + 1, 5, none⟩ (.int .i64 (e - (P : Int)))).heap[w.heap.size]? = some (.cells #[.int .u64 0, .int .i64 0, .int .i64 0, .bool false, .slice none 0 0, .int .i64 0] 26 (0, 0)) := by
    rw [heap_setCell_other _ _ _ _ (by simp), heap_setCell_other _ _ _ _ (by simp), heap_setCell_other _ _ _ _ (by simp)]; exact q1
  have OS : Own (((W9.setCell ⟨w.heap.size + 1, 2, none⟩ (.int .i64 1)).setCell ⟨w.heap.size + 1, 4, none⟩ r9).setCell ⟨w.heap.size + 1, 5, none⟩ (.int .i64 (e - (P : Int)))) W8.heap.size 23 r9 (cellsW (wds (od M))) :=
    ((o9.away q2 (by decide) 2 _).away (rowset (i := 2) (.int .i64 1) q2) (by decide) 4 _).away (rowset (i := 4) r9 (rowset (i := 2) (.int .i64 1) q2)) (by decide) 5 _
  have BS : Below w.heap.size w (((W9.setCell ⟨w.heap.size + 1, 2, none⟩ (.int .i64 1)).setCell ⟨w.heap.size + 1, 4, none⟩ r9).setCell ⟨w.heap.size + 1, 5, none⟩ (.int .i64 (e - (P : Int)))) := bset (bset (bset BW9.out (Nat.le_succ _)) (Nat.le_succ _)) (Nat.le_succ _)
  obtain ⟨E, hE⟩ : ∃ E, E = e - (P : Int) := ⟨_, rfl⟩
  rw [← hE] at S2' S1 OS BS
  have hE2 : e - (P : Int) = E := hE.symm
  have HEE := Lib.hid hE
  obtain ⟨⟨z0, z1, z2, z3, z4, z5⟩, -⟩ := row6 S2'
  obtain ⟨⟨v0, v1, v2, v3, v4, v5⟩, h0, h1, h2, h3, h4, h5⟩ := row6 S1
  have HS1 := Lib.hid S1
  have HOS := Lib.hid OS
  have HBS := Lib.hid BS
  clear S1 S2 S2' OS BS q1 q2 hE o9 b9 d1
  go_wp2_with fail
  have HS := row6_set (x := .int .u64 (p : Int)) (y := .int .i64 (m : Int)) (z := .int .i64 1) (x' := .bool neg) (y' := r9) (z' := .int .i64 E) HS1.out
  have HB := bset6 (x := .int .u64 (p : Int)) (y := .int .i64 (m : Int)) (z := .int .i64 1) (x' := .bool neg) (y' := r9) (z' := .int .i64 E) HBS.out (Nat.le_refl _)
  obtain ⟨⟨a0, a1, a2, a3, a4, a5⟩, -⟩ := row6 HS
  refine bodyPost_ret (v := .agg #[.int .u64 p, .int .i64 m, .int .i64 1, .bool neg, r9, .int .i64 E]) ?_ rfl ⟨_, rfl, ⟨_, _, _, W8.heap.size, rfl, ?_, wds_all _, fun h => absurd rfl h, fun _ => ⟨rfl, by rw [HEE.out, HE.out]⟩⟩, HB⟩
  · simp [results, Tryd.results48, go_sem, a0, a1, a2, a3, a4, a5]
  · exact HOS.out.same fun hc => by
      have hne : sBlk r9 ≠ w.heap.size := HOS.out.ne_row HS1.out (by decide) hc
      exact heap6_other hne
end Go.Proofs.YtjgkmnmemjebbaaDoor

/-
The reference's Has and Shr. No condition.
-/
namespace Go.Proofs.YtjgkmnmemjebbaaDoor
open Go.RowKit

theorem bit_dig (x i : Nat) : x / 2 ^ i % 2 = dig x (i / 16) / 2 ^ (i % 16) % 2 := by
  unfold dig
  have h1 : (2 : Nat) ^ i = 65536 ^ (i / 16) * 2 ^ (i % 16) := two_split i
  rw [h1, ← Nat.div_div_eq_div_mul]
  have h2 : (65536 : Nat) = 2 ^ (i % 16) * (2 * 2 ^ (15 - i % 16)) := by
    rw [← Nat.pow_succ', ← Nat.pow_add, show i % 16 + (15 - i % 16).succ = 16 by omega]
  generalize x / 65536 ^ (i / 16) = X
  conv => rhs; rw [h2, Nat.mod_mul_right_div_self, Nat.mod_mul_right_mod]
theorem and1_i64 (x : Nat) (_h : x < 65536) : bits .and .i64 (x : Int) 1 = ((x % 2 : Nat) : Int) := by
  have h1 : (BitVec.ofInt 64 1).toNat = 2 ^ 1 - 1 := by decide
  have key : (BitVec.ofInt 64 (x : Int) &&& BitVec.ofInt 64 1).toNat = ((x : Int) % ((2 ^ 64 : Nat) : Int)).toNat % 2 ^ 1 := by
    rw [BitVec.toNat_and, BitVec.toNat_ofInt, h1, Nat.and_two_pow_sub_one_eq_mod]
  show IntKind.i64.wrap ((BitVec.ofInt 64 (x : Int) &&& BitVec.ofInt 64 1).toNat : Nat) = _
  rw [key, IntKind.wrap_i64]
  omega
set_option maxRecDepth 100000 in
set_option maxHeartbeats 800000 in
theorem spHas (a : Value) (x i : Nat) (w : World) (ha : NatV w a x) (_hx : nl x ≤ 1000000000) (hi : i ≤ 16000000000) :
    Calls Tryd.prog 53 #[a, .int .i64 i] w fun e w' => e = .returned (.bool (decide (x / 2 ^ i % 2 = 1))) ∧ w = w' := by
  have hSa := ha.isS
  have hLa := ha.len
  obtain ⟨L, hL⟩ : ∃ L, L = nl x := ⟨_, rfl⟩
  rw [← hL] at hLa _hx
  have e1 : (i : Int) / 16 = ((i / 16 : Nat) : Int) := by omega
  have e2 : (i : Int) % 16 = ((i % 16 : Nat) : Int) := by omega
  have hbd := bit_dig x i
  obtain ⟨q, hq⟩ : ∃ q, q = i / 16 := ⟨_, rfl⟩
  obtain ⟨s, hs⟩ : ∃ s, s = i % 16 := ⟨_, rfl⟩
  rw [← hq, ← hs] at hbd
  rw [← hq] at e1
  rw [← hs] at e2
  have hs16 : s < 16 := by omega
  have hql : q ≤ 1000000000 := by omega
  by_cases hqL : q < L
  · have c := ha.cell q (by rw [← hL]; exact hqL)
    have hdl := dig_lt x q
    obtain ⟨d, hd⟩ : ∃ d, d = dig x q := ⟨_, rfl⟩
    rw [← hd] at c hdl hbd
    have hS2 : (2 : Int) ^ s = ((2 ^ s : Nat) : Int) := by simp
    obtain ⟨S, hS⟩ : ∃ S, S = 2 ^ s := ⟨_, rfl⟩
    rw [← hS] at hS2 hbd
    have hdq : (d : Int) / (S : Int) = ((d / S : Nat) : Int) := by simp
    have hdl2 : d / S < 65536 := Nat.lt_of_le_of_lt (Nat.div_le_self _ _) hdl
    have han := and1_i64 (d / S) hdl2
    obtain ⟨t, ht⟩ : ∃ t, t = d / S := ⟨_, rfl⟩
    rw [← ht] at hdq han hdl2 hbd
    have hf : (((t % 2 : Nat) : Int) == 1) = decide (x / 2 ^ i % 2 = 1) := by
      rw [hbd]
      rcases (by omega : t % 2 = 0 ∨ t % 2 = 1) with h | h <;> rw [h] <;> rfl
    obtain ⟨u, hu⟩ : ∃ u, u = t % 2 := ⟨_, rfl⟩
    rw [← hu] at han hf
    obtain ⟨B, hB⟩ : ∃ B, B = decide (x / 2 ^ i % 2 = 1) := ⟨_, rfl⟩
    rw [← hB] at hf ⊢
    have t1 : decide ((q : Int) < L) = true := decide_eq_true (by omega)
    clear hd hS ht hu hB hbd ha hL hq hs
    go_enter Tryd.func53, Tryd.ntmps53
    go_wp2
    go_ret
    exact ⟨rfl, rfl⟩
  · have t1 : decide ((q : Int) < L) = false := decide_eq_false (by omega)
    have hf : decide (x / 2 ^ i % 2 = 1) = false := by
      rw [hbd, dig_ge (by rw [← hL]; omega)]; simp
    rw [hf]
    clear hf hbd ha hL hq hs
    go_enter Tryd.func53, Tryd.ntmps53
    go_wp2
    go_ret
    exact ⟨rfl, rfl⟩
/-- A digit of a number that is shifted to the right. -/
theorem dig_shr (x n k : Nat) : (dig x (n / 16 + k) + 65536 * dig x (n / 16 + k + 1)) / 2 ^ (n % 16) % 65536 = dig (x / 2 ^ n) k := by
  have hs : n % 16 < 16 := Nat.mod_lt _ (by decide)
  have h1 : (2 : Nat) ^ n = 65536 ^ (n / 16) * 2 ^ (n % 16) := two_split n
  unfold dig
  rw [h1, Nat.div_div_eq_div_mul]
  have e0 : 65536 ^ (n / 16) * 2 ^ (n % 16) * 65536 ^ k = 65536 ^ (n / 16 + k) * 2 ^ (n % 16) := by rw [Nat.pow_add]; simp only [Nat.mul_comm, Nat.mul_left_comm]
  rw [e0, ← Nat.div_div_eq_div_mul, Nat.pow_succ, ← Nat.div_div_eq_div_mul]
  generalize x / 65536 ^ (n / 16 + k) = X
  generalize n % 16 = s at *
  have h2 : X % 65536 + 65536 * (X / 65536 % 65536) = X % (65536 * 65536) := by rw [Nat.mod_mul]
  rw [h2]
  have h3 : (65536 : Nat) * 65536 = 2 ^ s * (65536 * 2 ^ (16 - s)) := by
    rw [show (65536 : Nat) = 2 ^ 16 from rfl, ← Nat.pow_add, ← Nat.pow_add, ← Nat.pow_add]; congr 1; omega
  rw [h3, Nat.mod_mul_right_div_self, Nat.mod_mul_right_mod]
/-- Shr's loop: k digits are there. -/
def ShrRel (Y B k : Nat) (w : World) (v : Value) (wr : World) : Prop :=
  ∃ ds : List Nat, Own wr B 3 v (cellsN ds) ∧ (∀ d ∈ ds, d < 65536) ∧ ds.length = k ∧ val ds = Y % 65536 ^ k ∧ Below B w wr
theorem ShrRel.step {Y B k r : Nat} {w w1 : World} {v1 : Value} {ds : List Nat} (hd : ∀ d ∈ ds, d < 65536) (hdl : ds.length = k) (hv : val ds = Y % 65536 ^ k) (hr : r = dig Y k)
    (ho : Own w1 B 3 v1 (cellsN ds ++ [.int .i64 (r : Int)])) (hb : Below B w w1) : ShrRel Y B (k + 1) w v1 w1 := by
  rw [cellsN_snoc] at ho
  refine ⟨_, ho, ?_, by simp [hdl], ?_, hb⟩
  · intro z hz
    rcases List.mem_append.1 hz with h | h
    · exact hd z h
    · rw [List.mem_singleton.1 h, hr]; exact dig_lt _ _
  · rw [val_snoc, hdl, mod_succ, hv, hr]
set_option maxRecDepth 100000 in
set_option maxHeartbeats 800000 in
theorem spShr (a : Value) (x n : Nat) (w : World) (ha : NatV w a x) (hx : nl x ≤ 1000000000) (hn : n ≤ 16000000000) :
    Calls Tryd.prog 54 #[a, .int .i64 n] w fun e w' => ∃ r, e = .returned r ∧ NPost (x / 2 ^ n) w r w' := by
  have hSa := ha.isS
  have hLa := ha.len
  obtain ⟨L, hL⟩ : ∃ L, L = nl x := ⟨_, rfl⟩
  rw [← hL] at hLa hx
  have e1 : (n : Int) / 16 = ((n / 16 : Nat) : Int) := by omega
  have e2 : (n : Int) % 16 = ((n % 16 : Nat) : Int) := by omega
  have hdg := dig_shr x n
  have hx2 : x < 65536 ^ L := by rw [hL]; exact lt_nl x
  have h2n : (2 : Nat) ^ n = 65536 ^ (n / 16) * 2 ^ (n % 16) := two_split n
  obtain ⟨q, hq⟩ : ∃ q, q = n / 16 := ⟨_, rfl⟩
  obtain ⟨s, hs⟩ : ∃ s, s = n % 16 := ⟨_, rfl⟩
  rw [← hq, ← hs] at hdg h2n
  rw [← hq] at e1
  rw [← hs] at e2
  have hs16 : s < 16 := by omega
  have hql : q ≤ 1000000000 := by omega
  have hfin : ∀ k, L ≤ q + k → x / 2 ^ n % 65536 ^ k = x / 2 ^ n := fun k hk => by
    refine Nat.mod_eq_of_lt (Nat.div_lt_of_lt_mul ?_)
    rw [h2n]
    have h3 : x < 65536 ^ (q + k) := Nat.lt_of_lt_of_le hx2 (Nat.pow_le_pow_right (by decide) hk)
    rw [Nat.pow_add] at h3
    have h4 := Nat.two_pow_pos s
    calc x < 65536 ^ q * 65536 ^ k := h3
      _ ≤ 65536 ^ q * 2 ^ s * 65536 ^ k := Nat.mul_le_mul_right _ (Nat.le_mul_of_pos_right _ h4)
  obtain ⟨Y, hY⟩ : ∃ Y, Y = x / 2 ^ n := ⟨_, rfl⟩
  rw [← hY] at hfin hdg ⊢
  have hS2 : (2 : Int) ^ s = ((2 ^ s : Nat) : Int) := by simp
  obtain ⟨S, hS⟩ : ∃ S, S = 2 ^ s := ⟨_, rfl⟩
  rw [← hS] at hS2 hdg
  have HL := Lib.hid hL
  have HA := Lib.hid ha
  have HF := Lib.hid hfin
  have HG := Lib.hid hdg
  clear hL ha hfin hdg hx2 h2n hq hs hY hS
  go_enter Tryd.func54, Tryd.ntmps54
  go_wp2
  go_loopw [5, 6] (fun v i wr => ∃ k : Nat, (k = 0 ∨ q + k ≤ L) ∧ i = .int .i64 ((q + k : Nat) : Int) ∧ ShrRel Y w.heap.size k w v wr) (fun _ i _ => L - (intOf i).toNat)
  case atStart => exact ⟨0, .inl rfl, rfl, [], Own.zero _ _ _ _ _, by simp, rfl, by simp [val, Nat.mod_one], (Below.refl _ _).alloc (Nat.le_refl _) _⟩
  case round =>
    obtain ⟨k, hk, rfl, ds, ho, hd, hdl, hv, hbl⟩ := hrel
    have Hd := Lib.hid hd
    have Hdl := Lib.hid hdl
    have Hv := Lib.hid hv
    have hbz := hbl.size
    have Hcl := Lib.hid (cellsN_length ds)
    have hkk : k ≤ 1000000000 := by omega
    clear hd hdl hv
    obtain ⟨j, hj⟩ : ∃ j, j = q + k := ⟨_, rfl⟩
    have hjl : j ≤ 2000000000 := by omega
    rw [← hj]
    by_cases hka : j < L
    · have ca := (HA.out.below hbl).cell j (by rw [← HL.out]; exact hka)
      have cb : j + 1 < L → _ := fun h => (HA.out.below hbl).cell (j + 1) (by rw [← HL.out]; exact h)
      have g1 := dig_lt x j
      have g2 := dig_lt x (j + 1)
      have hyz : ¬ j + 1 < L → dig x (j + 1) = 0 := fun h => dig_ge (by rw [← HL.out]; omega)
      have hG := HG.out k
      rw [← hj] at hG
      obtain ⟨d, hdd⟩ : ∃ d, d = dig x j := ⟨_, rfl⟩
      obtain ⟨c, hcc⟩ : ∃ c, c = dig x (j + 1) := ⟨_, rfl⟩
      rw [← hdd] at ca g1 hG
      rw [← hcc] at cb hyz g2 hG
      have t0 : decide (j < L) = true := decide_eq_true hka
      obtain ⟨u, hu⟩ : ∃ u, u = d + 65536 * c := ⟨_, rfl⟩
      rw [← hu] at hG
      have hq1 : (u : Int) / (S : Int) = ((u / S : Nat) : Int) := by simp
      have hul : u / S ≤ u := Nat.div_le_self _ _
      obtain ⟨z, hz⟩ : ∃ z, z = u / S := ⟨_, rfl⟩
      rw [← hz] at hq1 hul hG
      have hr2 : (z : Int) % 65536 = ((z % 65536 : Nat) : Int) := by simp
      obtain ⟨r, hr⟩ : ∃ r, r = z % 65536 := ⟨_, rfl⟩
      rw [← hr] at hr2 hG
      have Hg := Lib.hid hG
      have fin : ∀ (v1 : Value) (w1 : World), Own w1 w.heap.size 3 v1 (cellsN ds ++ [.int .i64 (r : Int)]) → Below w.heap.size w w1 → ShrRel Y w.heap.size (k + 1) w v1 w1 :=
        fun v1 w1 h3 h4 => ShrRel.step Hd.out Hdl.out Hv.out Hg.out h3 h4
      have Fin := Lib.hid fin
      have hdlk : ds.length ≤ 1000000000 := by have := Hdl.out; omega
      have Hj := Lib.hid hj
      clear fin hG hr hz hcc hdd hj
      rcases (by omega : j + 1 < L ∨ ¬ j + 1 < L) with h | h
      case' inl =>
        have cb' := cb h
        have t1 : decide (j + 1 < L) = true := decide_eq_true h
        have eu : (d : Int) + 65536 * (c : Int) = (u : Int) := by omega
      case' inr =>
        have cb' := hyz h
        have t1 : decide (j + 1 < L) = false := decide_eq_false h
        have eu : d = u := by omega
        subst eu
        clear cb'
      all_goals
        clear hu hyz cb
        go_wp2_with (at_builtin; refine wpList_append_O rfl _ _ _ _ rfl elemN w.heap.size _ _ rfl (ho.alloc _) _ rfl 1 [.int .i64 _] (srcOne Tryd.underlying34 wr _ _) ?_ ?_ ?_ ?_)
        · rw [Hcl.out]; unfold maxLen; omega
        · rw [Hcl.out]; omega
        · simp; omega
        · intro v1 w1 ho1 hb1 _ _ _
          have hs := Fin.out v1 w1 ho1 ((hbl.alloc hbz _).trans hb1)
          have Hs := Lib.hid hs
          clear hs ho1
          go_wp2
          refine ⟨⟨k + 1, .inr (by have := Hj.out; omega), ?_, Hs.out⟩, by simp [intOf]; omega⟩
          have := Hj.out
          exact congrArg (Value.int .i64) (by omega)
    · have t0 : decide (j < L) = false := decide_eq_false hka
      have Hj := Lib.hid hj
      clear hj
      go_wp2_with fail
      refine (spTrim _ ds wr ho.rl Hd.out (by have := Hdl.out; omega)).mono ?_
      rintro _ _ ⟨r, rfl, hr, rfl⟩
      have Hr := Lib.hid hr
      clear hr
      go_wp2
      go_ret
      refine ⟨_, rfl, ?_, hbl⟩
      have := HF.out k (by have := Hj.out; omega)
      rw [← this, ← Hv.out]
      exact Hr.out
end Go.Proofs.YtjgkmnmemjebbaaDoor
