/-
Texts of this proof, joined: IfU. No condition.
-/
import Derived.Test.YtjapoobegjoblaaDoorK24
/-
Floats: Uint64; the statement on it. No condition.
-/
namespace Go.Proofs.YtjapoobegjoblaaDoor
open Go.RowKit

/-- What Uint64 answers. -/
def u64V (f : Nat) (n : Bool) (M : Nat) (X : Int) : Nat := if f ≠ 1 then 0 else if n then 0 else if (bl M : Int) + X ≤ 64 then trn M X else 18446744073709551615
def u64A (f : Nat) (n : Bool) (M : Nat) (X : Int) : Int := if f ≠ 1 then 0 else if n then 1 else if (bl M : Int) + X ≤ 0 then -1 else if (bl M : Int) + X ≤ 64 then (if bl (od M) ≤ 64 then 0 else -1) else -1
theorem u64_bd (f : Nat) (n : Bool) (M : Nat) (X : Int) : u64V f n M X ≤ 18446744073709551615 ∧ -1 ≤ u64A f n M X ∧ u64A f n M X ≤ 1 := by
  unfold u64V u64A
  constructor
  · split
    · omega
    · split
      · omega
      · split
        · have := trn_lt (M := M) (E := X) (k := 64) (by assumption)
          have h : (2 : Nat) ^ 64 = 18446744073709551616 := rfl
          omega
        · omega
  · repeat' split
    all_goals omega
theorem cmpI_nonpos {i j : Int} (h : i ≤ j) : cmpI i j ≤ 0 := by
  rcases Int.lt_or_eq_of_le h with h | h
  · rw [cmpI_lt h]; decide
  · subst h; unfold cmpI; rw [if_neg (by omega), if_neg (by omega)]; decide
theorem u64V_f (M : Nat) (X : Int) : u64V 1 false M X = if (bl M : Int) + X ≤ 64 then trn M X else 18446744073709551615 := by unfold u64V; rw [if_neg (by decide), if_neg (by decide)]
theorem u64A_f (M : Nat) (X : Int) : u64A 1 false M X = if (bl M : Int) + X ≤ 0 then -1 else if (bl M : Int) + X ≤ 64 then (if bl (od M) ≤ 64 then 0 else -1) else -1 := by unfold u64A; rw [if_neg (by decide), if_neg (by decide)]
theorem sgD_lt {n : Bool} {M : Nat} (h : sgD n M < 0) : n = true ∧ 0 < M := by
  unfold sgD at h
  by_cases h0 : M = 0
  · rw [if_pos h0] at h; omega
  · rw [if_neg h0] at h
    cases n
    · simp at h
    · exact ⟨rfl, by omega⟩
theorem sgD_tt {M : Nat} (h : 0 < M) : sgD true M = -1 := by unfold sgD; rw [if_neg (by omega)]; rfl
theorem dyN_tt {f : Nat} {n : Bool} (h : dyN f n = true) : f = 1 ∧ n = true := by
  unfold dyN at h
  by_cases h1 : f = 1
  · rw [if_pos h1] at h; exact ⟨h1, h⟩
  · rw [if_neg h1] at h; exact absurd h (by decide)
theorem u64_deq {M N : Nat} {E F : Int} {n : Bool} (hM : 0 < M) (h : deq M E N F) : u64V 1 n M E = u64V 1 n N F ∧ u64A 1 n M E = u64A 1 n N F := by
  unfold u64V u64A
  rw [h.bl hM, trn_deq h, (h.od hM).1]; exact ⟨rfl, rfl⟩
theorem u64_more {M : Nat} {E : Int} (hM : 0 < M) (h : 0 < cmpI (sI false (M * 2 ^ (E - min E 0).toNat)) (sI false (18446744073709551615 * 2 ^ (0 - min E 0).toNat))) : u64V 1 false M E = 18446744073709551615 ∧ u64A 1 false M E = -1 := by
  rw [cmp_low (e := min E 0) (by omega)] at h
  have h1 : sI false (lo 18446744073709551615 0 (min E 0)) < sI false (lo M E (min E 0)) := by
    refine Int.lt_of_not_ge fun hc => ?_
    rcases Int.lt_or_eq_of_le hc with h2 | h2
    · rw [cmpI_lt h2] at h; omega
    · rw [← h2] at h; unfold cmpI at h; rw [if_neg (by omega), if_neg (by omega)] at h; omega
  have h2 : lo 18446744073709551615 0 (min E 0) = 18446744073709551615 * 2 ^ (-(min E 0)).toNat := by
    unfold lo
    rw [show (0 - min E 0).toNat = (-(min E 0)).toNat by omega]
  rw [h2] at h1
  simp only [sI, Bool.false_eq_true, if_false] at h1
  obtain ⟨D, hD⟩ : ∃ D, D = 2 ^ (-(min E 0)).toNat := ⟨_, rfl⟩
  have hD0 : 0 < D := by rw [hD]; exact Nat.two_pow_pos _
  have ht := trn_low (M := M) (show min E 0 ≤ E by omega) (by omega)
  have he := exT_low (M := M) (show min E 0 ≤ E by omega)
  rw [← hD] at h1 ht he
  have h3 : 18446744073709551615 * D < lo M E (min E 0) := by omega
  have h4 : 18446744073709551615 ≤ trn M E := by rw [ht, Nat.le_div_iff_mul_le hD0]; omega
  have h5 : ¬ (bl M : Int) + E ≤ 0 := fun hc => by
    have := trn_lt (M := M) (E := E) (k := 0) (by omega)
    omega
  rw [u64V_f, u64A_f, if_neg h5]
  by_cases h6 : (bl M : Int) + E ≤ 64
  · rw [if_pos h6, if_pos h6]
    have h7 := trn_lt (M := M) (E := E) (k := 64) (by omega)
    have h8 : (2 : Nat) ^ 64 = 18446744073709551616 := rfl
    have h9 : trn M E = 18446744073709551615 := by omega
    refine ⟨h9, ?_⟩
    rw [if_neg]
    intro hc
    have hbo := bl_od hM
    have hge : 64 ≤ (bl M : Int) + E := by
      refine Int.not_lt.1 fun hlt => ?_
      have := trn_lt (M := M) (E := E) (k := 63) (by omega)
      have h8 : (2 : Nat) ^ 63 = 9223372036854775808 := rfl
      omega
    have hx : exT M E = true := by rw [exT_tz hM]; exact decide_eq_true (by omega)
    rw [he] at hx
    have k4 := of_decide_eq_true hx
    have k5 := Nat.div_add_mod (lo M E (min E 0)) D
    rw [← ht, h9, k4, Nat.mul_comm] at k5
    omega
  · rw [if_neg h6, if_neg h6]
    exact ⟨rfl, rfl⟩
theorem u64_mid {M : Nat} {E : Int} (hM : 0 < M) (h2 : cmpI (sI false (M * 2 ^ (E - min E 0).toNat)) (sI false (18446744073709551615 * 2 ^ (0 - min E 0).toNat)) ≤ 0) :
    u64V 1 false M E = trn M E ∧ (u64A 1 false M E = 0 ∨ exT M E = false) := by
  rw [cmp_low (e := min E 0) (by omega)] at h2
  have g2 : sI false (lo M E (min E 0)) ≤ sI false (lo 18446744073709551615 0 (min E 0)) := by
    refine Int.not_lt.1 fun hc => ?_
    rw [cmpI_gt hc] at h2; omega
  have e2 : lo 18446744073709551615 0 (min E 0) = 18446744073709551615 * 2 ^ (-(min E 0)).toNat := by
    unfold lo
    rw [show (0 - min E 0).toNat = (-(min E 0)).toNat by omega]
  rw [e2] at g2
  simp only [sI, Bool.false_eq_true, if_false] at g2
  obtain ⟨D, hD⟩ : ∃ D, D = 2 ^ (-(min E 0)).toNat := ⟨_, rfl⟩
  have hD0 : 0 < D := by rw [hD]; exact Nat.two_pow_pos _
  have ht := trn_low (M := M) (show min E 0 ≤ E by omega) (by omega)
  rw [← hD] at g2 ht
  have h3 : lo M E (min E 0) < 18446744073709551616 * D := by omega
  have h4 : trn M E < 18446744073709551616 := by
    rw [ht]; exact Nat.div_lt_of_lt_mul (by rw [Nat.mul_comm]; exact h3)
  have h6 : (bl M : Int) + E ≤ 64 := by
    refine Int.not_lt.1 fun hc => ?_
    have := trn_ge (M := M) (E := E) (k := 64) hM (by omega)
    have h8 : (2 : Nat) ^ 64 = 18446744073709551616 := rfl
    omega
  have hbo := bl_od hM
  have htz := tz_le hM
  rw [u64V_f, u64A_f, if_pos h6, if_pos h6]
  refine ⟨rfl, ?_⟩
  rw [exT_tz hM]
  by_cases h5 : (bl M : Int) + E ≤ 0
  · exact .inr (decide_eq_false (by omega))
  · rw [if_neg h5]
    by_cases h7 : bl (od M) ≤ 64
    · rw [if_pos h7]; exact .inl rfl
    · exact .inr (decide_eq_false (by omega))
set_option maxRecDepth 100000 in
set_option maxHeartbeats 3200000 in
theorem uint64_one (c p m : Nat) (a e : Int) (neg : Bool) (v : Value) (ws : List Nat) (w : World) (h : FltR w c p m a 1 neg v e) (hv : RW w v ws) (hg : Good ws p) (hT : TabW w) (he1 : -1000000000 ≤ e) (he2 : e ≤ 1000000000) :
    Calls Tryd.prog 49 #[.pointer (some ⟨c, 0, none⟩)] w fun e' w' => e' = .returned (.tuple #[.int .u64 (u64V 1 neg (wv ws) (e - 64 * (ws.length : Int)) : Nat), .int .i8 (u64A 1 neg (wv ws) (e - 64 * (ws.length : Int)))]) ∧ ∃ n, w' = w.drewN n := by
  have hS := hv.isS
  have h0 := hg.posv
  have hb := hg.bl
  obtain ⟨X, hX⟩ : ∃ X : Int, X = e - 64 * (ws.length : Int) := ⟨_, rfl⟩
  rw [← hX]
  obtain ⟨q, hq⟩ : ∃ q, q = bl (od (wv ws)) := ⟨_, rfl⟩
  have hod := bl_od h0
  rw [← hq] at hod
  have hqb : q ≤ 64000000 := by have := hg.2.1; omega
  have HMP := Lib.hid (fun (k : Nat) => minPrec_one c p m a e neg v ws (w.drewN k) (h.drewN k) (hv.below (undrewN' (Below.refl _ _))) h0 hg.2.1 hg.bl (hT.drewN k))
  rw [← hq] at HMP
  have HMS : Hid (∀ k : Nat, Calls Tryd.prog 78 #[v] (w.drewN k) fun e' w' => e' = .returned (.int .u64 (ws.getD (ws.length - 1) 0 : Nat)) ∧ w' = w.drewN k) := Lib.hid (fun k => (msb64_any v ws (w.drewN k) (hv.below (undrewN' (Below.refl _ _))) hg.1 hg.2.1).mono (fun _ _ h => ⟨h.1, h.2.symm⟩))
  have htop := wv_top hg.2.2.1 hg.1
  have htl := hg.2.2.1
  obtain ⟨t, ht⟩ : ∃ t, t = ws.getD (ws.length - 1) 0 := ⟨_, rfl⟩
  have htb : t < 18446744073709551616 := by
    rw [ht, List.getD_eq_getElem?_getD]
    have hl : ws.length - 1 < ws.length := by have := hg.1; omega
    rw [List.getElem?_eq_getElem hl]
    exact htl _ (List.getElem_mem hl)
  rw [← ht] at HMS htop
  have hlen := hg.1
  obtain ⟨c0, c1, c2, c3', c4, c5, c6⟩ := h.cells
  have c3 : w.cell? ⟨c, 3, none⟩ = some (.int .u8 1) := c3'
  obtain ⟨V, hV⟩ : ∃ V, V = u64V 1 neg (wv ws) X := ⟨_, rfl⟩
  obtain ⟨A, hA⟩ : ∃ A, A = u64A 1 neg (wv ws) X := ⟨_, rfl⟩
  rw [← hV, ← hA]
  have hbX : (bl (wv ws) : Int) + X = e := by omega
  unfold u64V at hV
  unfold u64A at hA
  rw [if_neg (by decide), hbX] at hV
  rw [if_neg (by decide), hbX, ← hq] at hA
  cases neg
  · rw [if_neg (by decide)] at hV hA
    by_cases h1 : e ≤ 0
    · have t1 : decide (e ≤ 0) = true := decide_eq_true h1
      have HV0 : Hid (V = 0) := Lib.hid (by
        rw [hV, if_pos (by omega)]
        have := trn_lt (M := wv ws) (E := X) (k := 0) (by omega)
        omega)
      have HA0 : Hid (A = -1) := Lib.hid (by rw [hA, if_pos h1])
      clear h hv hg hT h0 hb hod hX hq htop htl ht hlen c3' hV hA hbX h1
      go_enter Tryd.func49, Tryd.ntmps49
      go_wp2
      go_ret2
      rw [HV0.out, HA0.out]
      exact ⟨rfl, 0, rfl⟩
    have t1 : decide (e ≤ 0) = false := decide_eq_false h1
    rw [if_neg h1] at hA
    by_cases h2 : e ≤ 64
    · rw [if_pos h2] at hV hA
      obtain ⟨E, rfl⟩ := Int.eq_ofNat_of_zero_le (show 0 ≤ e by omega)
      have hE0 : 0 < E := by omega
      have hE64 : E ≤ 64 := by omega
      have t0 : decide (E = 0) = false := decide_eq_false (by omega)
      have t2 : decide ((E : Int) ≤ 64) = true := decide_eq_true h2
      have t2' : decide (E ≤ 64) = true := decide_eq_true hE64
      obtain ⟨s, hs⟩ : ∃ s, s = 64 - E := ⟨_, rfl⟩
      have hs64 : s ≤ 63 := by omega
      have hsE : (64 : Int) - (E : Int) = (s : Int) := by omega
      obtain ⟨D, hD⟩ : ∃ D, D = 2 ^ s := ⟨_, rfl⟩
      have hD0 : 0 < D := by rw [hD]; exact Nat.two_pow_pos _
      have hS2 : (2 : Int) ^ s = (D : Int) := by rw [hD]; simp
      obtain ⟨i, hi⟩ : ∃ i, i = t / D := ⟨_, rfl⟩
      have hit : i = trn (wv ws) X := by
        rw [hi, htop, hD, Nat.div_div_eq_div_mul, ← Nat.pow_add]
        unfold trn
        rw [show X.toNat = 0 by omega, Nat.pow_zero, Nat.mul_one, show 64 * (ws.length - 1) + s = (-X).toNat by omega]
      have hib : i < 18446744073709551616 := by
        rw [hi]; exact Nat.lt_of_le_of_lt (Nat.div_le_self _ _) htb
      have hdv : (t : Int) / (D : Int) = (i : Int) := by rw [hi]; simp
      have HV0 : Hid (V = i) := Lib.hid (by rw [hV, hit])
      by_cases h3 : q ≤ 64
      · have t3 : decide (q ≤ 64) = true := decide_eq_true h3
        have t3' : decide ((q : Int) ≤ 64) = true := decide_eq_true (by omega)
        have HA0 : Hid (A = 0) := Lib.hid (by rw [hA, if_pos h3])
        clear h hv hg hT h0 hb hod hX hq htop htl ht hlen c3' hV hA hbX h1 h2 hs hD hi hit h3
        go_enter Tryd.func49, Tryd.ntmps49
        go_wp2_with fail
        go_quiet ((go_at_call 78; exact Calls.quiet_of_same (HMS.out _)))
        go_wp2_with fail
        refine (HMP.out _).mono ?_
        rintro _ _ ⟨rfl, n1, rfl⟩
        go_wp2
        go_ret2
        rw [HV0.out, HA0.out]
        exact ⟨rfl, _, rfl⟩
      · have t3 : decide (q ≤ 64) = false := decide_eq_false h3
        have t3' : decide ((q : Int) ≤ 64) = false := decide_eq_false (by omega)
        have HA0 : Hid (A = -1) := Lib.hid (by rw [hA, if_neg h3])
        clear h hv hg hT h0 hb hod hX hq htop htl ht hlen c3' hV hA hbX h1 h2 hs hD hi hit h3
        go_enter Tryd.func49, Tryd.ntmps49
        go_wp2_with fail
        go_quiet ((go_at_call 78; exact Calls.quiet_of_same (HMS.out _)))
        go_wp2_with fail
        refine (HMP.out _).mono ?_
        rintro _ _ ⟨rfl, n1, rfl⟩
        go_wp2
        go_ret2
        rw [HV0.out, HA0.out]
        exact ⟨rfl, _, rfl⟩
    have t2 : decide (e ≤ 64) = false := decide_eq_false h2
    have HV0 : Hid (V = 18446744073709551615) := Lib.hid (by rw [hV, if_neg h2])
    have HA0 : Hid (A = -1) := Lib.hid (by rw [hA, if_neg h2])
    clear h hv hg hT h0 hb hod hX hq htop htl ht hlen c3' hV hA hbX h1 h2
    go_enter Tryd.func49, Tryd.ntmps49
    go_wp2
    go_ret2
    rw [HV0.out, HA0.out]
    exact ⟨rfl, 0, rfl⟩
  · have HV0 : Hid (V = 0) := Lib.hid (by rw [hV, if_pos rfl])
    have HA0 : Hid (A = 1) := Lib.hid (by rw [hA, if_pos rfl])
    clear h hv hg hT h0 hb hod hX hq htop htl ht hlen c3' hV hA hbX
    go_enter Tryd.func49, Tryd.ntmps49
    go_wp2
    go_ret2
    rw [HV0.out, HA0.out]
    exact ⟨rfl, 0, rfl⟩
set_option maxRecDepth 100000 in
theorem uint64_zero (c p m : Nat) (a e : Int) (neg : Bool) (v : Value) (w : World) (h : FltR w c p m a 0 neg v e) :
    Calls Tryd.prog 49 #[.pointer (some ⟨c, 0, none⟩)] w fun e' w' => e' = .returned (.tuple #[.int .u64 0, .int .i8 0]) ∧ ∃ n, w' = w.drewN n := by
  obtain ⟨c0, c1, c2, c3', c4, c5, c6⟩ := h.cells
  have c3 : w.cell? ⟨c, 3, none⟩ = some (.int .u8 0) := c3'
  clear h c3'
  go_enter Tryd.func49, Tryd.ntmps49
  go_wp2
  go_ret2
  exact ⟨rfl, 0, rfl⟩
theorem uint64_val (c Bx p m f : Nat) (a : Int) (neg : Bool) (M : Nat) (X : Int) (w : World) (hx : FVal w Bx c p m a f neg M X) (hf : f ≤ 1) (hX : f = 1 → -900000000 ≤ X ∧ X + bl M ≤ 900000000) (hT : TabW w) :
    Calls Tryd.prog 49 #[.pointer (some ⟨c, 0, none⟩)] w fun e' w' => e' = .returned (.tuple #[.int .u64 (u64V f neg M X : Nat), .int .i8 (u64A f neg M X)]) ∧ ∃ n, w' = w.drewN n := by
  obtain ⟨v, e, h1, h2⟩ := hx
  rcases (by omega : f = 0 ∨ f = 1) with rfl | rfl
  · exact uint64_zero c p m a e neg v w h1
  · obtain ⟨hM, ws, ho, hg, hd⟩ := h2 rfl
    have h0 := hd.symm.pos hM
    have hb := hd.bl h0
    rw [hg.bl] at hb
    have := hX rfl
    obtain ⟨k1, k2⟩ := u64_deq (n := neg) h0 hd
    rw [← k1, ← k2]
    exact uint64_one c p m a e neg v ws w h1 (ho.rw' hg.2.2.1) hg hT (by omega) (by omega)
set_option maxRecDepth 100000 in
set_option maxHeartbeats 1600000 in
theorem impUint64 (P E p m f : Nat) (neg : Bool) (v : Value) (e : Int) (ws : List Nat) (w : World) (hv : RW w v ws) (ho : RealOk P E p m f ws e) (hf : f ≤ 1) (hP : P ≤ 1000000) (hE : E ≤ 100000000) (hT : TabW w) :
    Calls Tryd.prog 18 #[.agg #[.int .u64 p, .int .i64 m, .int .i64 f, .bool neg, v, .int .i64 e]] w fun e' w' => e' = .returned (.tuple #[.int .u64 (u64V f neg (wv ws) e : Nat), .int .i64 (u64A f neg (wv ws) e)]) ∧ Below w.heap.size w w' := by
  have hS := hv.isS
  have hab := (Below.refl w.heap.size w).alloc (Nat.le_refl _) (.cells #[.int .u64 p, .int .i64 m, .int .i64 f, .bool neg, v, .int .i64 e] 25)
  obtain ⟨X, hX⟩ : ∃ X, X = w.alloc (.cells #[.int .u64 p, .int .i64 m, .int .i64 f, .bool neg, v, .int .i64 e] 25) := ⟨_, rfl⟩
  have hr1 : X.heap[w.heap.size]? = some (.cells #[.int .u64 p, .int .i64 m, .int .i64 f, .bool neg, v, .int .i64 e] 25 (0, 0)) := by rw [hX]; exact row_chain11
  rw [← hX] at hab
  obtain ⟨-, x0, x1, x2, x3, x4, x5⟩ := ks12 hr1 (Below.refl _ _)
  have HV := Lib.hid (hv.below hab)
  have HO := Lib.hid ho
  have HT := Lib.hid (hT.below hab)
  have HB := Lib.hid hab
  have hXs := hab.size
  have HXB : Hid (f = 1 → -900000000 ≤ e ∧ e + bl (wv ws) ≤ 900000000) := Lib.hid (fun h => by have := ho.one h; omega)
  obtain ⟨hbv, hba⟩ := u64_bd f neg (wv ws) e
  obtain ⟨V, hV⟩ : ∃ V, V = u64V f neg (wv ws) e := ⟨_, rfl⟩
  obtain ⟨A, hA⟩ : ∃ A, A = u64A f neg (wv ws) e := ⟨_, rfl⟩
  have HI := Lib.hid (fun (W : World) (B g : Nat) (h : FVal W B g p m 0 f neg (wv ws) e) (hT : TabW W) => uint64_val g B p m f 0 neg (wv ws) e W h hf HXB.out hT)
  rw [← hV, ← hA] at HI
  rw [← hV] at hbv
  rw [← hA] at hba
  rw [← hV, ← hA]
  clear hv ho hT hab hr1 hV hA
  go_enter Tryd.func18, Tryd.ntmps18
  go_upto_region 1 with fail
  rw [← hX]
  clear hX
  go_wp2_with fail
  refine (float_val P E p m f neg v e ws X HV.out HO.out (by omega) (by omega)).mono ?_
  rintro _ w1 ⟨g, rfl, ⟨-, hF⟩, hb1⟩
  have HF := Lib.hid hF
  have HB1 := Lib.hid (HB.out.trans (hb1.mono hXs))
  have HT1 := Lib.hid (HT.out.below hb1)
  clear hF hb1 x0 x1 x2 x3 x4 x5
  go_wp2_with fail
  refine (HI.out w1 _ g HF.out HT1.out).mono ?_
  rintro _ _ ⟨rfl, n1, rfl⟩
  have HB2 := Lib.hid (undrewN' (n := n1) HB1.out)
  go_wp2
  go_ret2
  exact ⟨rfl, HB2.out⟩
theorem u64_top {ng : Bool} {T : Nat} (h : sI ng T = smV false 1 64 true 1 0) : ng = false ∧ T = 18446744073709551615 := by
  have h1 : smV false 1 64 true 1 0 = 18446744073709551615 := by decide
  rw [h1] at h
  cases ng
  · simp only [sI, Bool.false_eq_true, if_false] at h; exact ⟨rfl, by omega⟩
  · simp only [sI, if_true] at h; omega
theorem nl_le_u64 {V : Nat} (h : V ≤ 18446744073709551615) : nl V ≤ 1000000000 := Nat.le_trans (nl_le (L := 4) (by omega)) (by decide)
theorem bl_top64 : bl 18446744073709551615 ≤ 60000 := Nat.le_trans (bl_le (k := 64) (by decide)) (by decide)
set_option maxRecDepth 100000 in
set_option maxHeartbeats 3200000 in
theorem lawUint64 (p1 : Nat) (m1 f1 : Int) (n1 : Bool) (v1 : Value) (e1 : Int) (xs1 : List Nat) (w : World) (hT : TabW w) (hv1 : RW w v1 xs1) (_hg1 : p1 ≤ 18446744073709551615 ∧ (-9223372036854775808 ≤ m1 ∧ m1 ≤ 9223372036854775807) ∧ (-9223372036854775808 ≤ f1 ∧ f1 ≤ 9223372036854775807) ∧ (-9223372036854775808 ≤ e1 ∧ e1 ≤ 9223372036854775807)) :
    Calls Tryd.prog 4 #[.agg #[.int .u64 p1, .int .i64 m1, .int .i64 f1, .bool n1, v1, .int .i64 e1]] w fun e' w' => e' = .returned (.bool true) ∧ Below w.heap.size w w' := by
  have hS1 := hv1.isS
  clear _hg1
  have hab1 := (Below.refl w.heap.size w).alloc (Nat.le_refl _) (.cells #[.int .u64 p1, .int .i64 m1, .int .i64 f1, .bool n1, v1, .int .i64 e1] 25)
  obtain ⟨X, hX⟩ : ∃ X, X = (w.alloc (.cells #[.int .u64 p1, .int .i64 m1, .int .i64 f1, .bool n1, v1, .int .i64 e1] 25)) := ⟨_, rfl⟩
  have hr1 : X.heap[w.heap.size]? = some (.cells #[.int .u64 p1, .int .i64 m1, .int .i64 f1, .bool n1, v1, .int .i64 e1] 25 (0, 0)) := by
    rw [hX]; exact row_chain11
  rw [← hX] at hab1
  obtain ⟨-, ⟨c10, c11, c12, c13, c14, c15⟩⟩ := ksR1 hr1 (Below.refl _ _)
  have HR1 := Lib.hid hr1
  have V1 := Lib.hid (hv1.below hab1)
  have hXs := hab1.size
  have HW := Lib.hid hab1
  have T0 := Lib.hid (hT.below hab1)
  clear hT
  clear hr1 hv1
  clear hab1
  go_enter Tryd.func4, Tryd.ntmps4
  go_upto_region 1 with fail
  rw [← hX]
  clear hX
  go_wp2_with fail
  refine (zzFits1_any p1 m1 f1 e1 n1 v1 xs1 X V1.out).mono ?_
  rintro _ w1 ⟨rfl, hb1⟩
  obtain ⟨fits, hfits⟩ : ∃ f, f = decide (xs1.length ≤ 2147483647) := ⟨_, rfl⟩
  rw [← hfits]
  clear c10 c11 c12 c13 c14 c15 hfits
  obtain ⟨-, ⟨c10, c11, c12, c13, c14, c15⟩⟩ := ksR1 HR1.out hb1
  have HB := Lib.hid hb1
  clear hb1
  cases fits with
  | false =>
    go_wp2
    go_ret
    exact ⟨rfl, HW.out.trans (HB.out.mono hXs)⟩
  | true =>
  go_wp2_with fail
  refine (number_any p1 m1 f1 e1 n1 v1 xs1 w1 (V1.out.below HB.out)).mono ?_
  rintro _ w2 ⟨ok, rfl, hok, hb1⟩
  have hb1 := bthen HB.out hb1
  have HO1 := Lib.hid hok
  clear c10 c11 c12 c13 c14 c15 HB hok
  obtain ⟨-, ⟨c10, c11, c12, c13, c14, c15⟩⟩ := ksR1 HR1.out hb1
  have HB := Lib.hid hb1
  clear hb1
  cases ok with
  | false =>
    go_wp2
    go_ret
    exact ⟨rfl, HW.out.trans (HB.out.mono hXs)⟩
  | true =>
  obtain ⟨hn, P1, M1, F1, hp, rfl, rfl, hR⟩ := HO1.out rfl
  have hpp : P1 = p1 := by omega
  subst hpp
  have R1 := Lib.hid hR
  have N1 : Hid (F1 ≠ 2) := Lib.hid (fun h => hn (by rw [h]; rfl))
  clear HO1 hp hR hn
  have hWW := HW.out.trans (HB.out.mono hXs)
  have hV1 := V1.out.below HB.out
  have hr1 := keep_row HB.out HR1.out
  have hT0 := T0.out.below HB.out
  clear T0
  have T0 := Lib.hid hT0
  clear hT0
  clear HW HB hXs V1 HR1
  have HW := Lib.hid hWW
  have V1 := Lib.hid hV1
  have HR1 := Lib.hid hr1
  have hWs := HW.out.size
  clear hWW hV1 hr1
  have hf1 : F1 ≤ 1 := by have := R1.out.form'; have := N1.out; omega
  obtain ⟨hbv, hba⟩ := u64_bd F1 n1 (wv xs1) e1
  have HI := Lib.hid (impUint64 300 1000 P1 M1 F1 n1 v1 e1 xs1 w2 V1.out R1.out hf1 (by decide) (by decide) T0.out)
  have HBD := Lib.hid (dy_bd R1.out)
  have HPOS : Hid (F1 = 1 → 0 < wv xs1) := Lib.hid (fun h => (R1.out.one h).1)
  obtain ⟨V, hV⟩ : ∃ V, V = u64V F1 n1 (wv xs1) e1 := ⟨_, rfl⟩
  obtain ⟨A, hA⟩ : ∃ A, A = u64A F1 n1 (wv xs1) e1 := ⟨_, rfl⟩
  rw [← hV, ← hA] at HI
  rw [← hV] at hbv
  rw [← hA] at hba
  have HV := Lib.hid hV
  have HA := Lib.hid hA
  have HF1 := Lib.hid hf1
  clear hV hA hf1
  go_wp2_with fail
  refine HI.out.mono ?_
  rintro _ w7 ⟨rfl, hb7⟩
  clear c10 c11 c12 c13 c14 c15
  obtain ⟨-, c10, c11, c12, c13, c14, c15⟩ := ks12 HR1.out hb7
  have V7 := Lib.hid (V1.out.below hb7)
  have HW7 := Lib.hid (HW.out.trans (hb7.mono hWs))
  have h7s := HW7.out.size
  clear hb7
  go_wp2_with fail
  refine (ofReal_any 300 1000 P1 M1 F1 e1 n1 v1 xs1 w7 V7.out R1.out).mono ?_
  rintro _ w8 ⟨_, rfl, ⟨b, rfl, hd1⟩, hb8⟩
  have hT1 := hd1.isS
  obtain ⟨Y, hY⟩ : ∃ Y, Y = w8.alloc (.cells #[.bool (dyN F1 n1), b, .int .i64 (dyE F1 e1)] 33) := ⟨_, rfl⟩
  have hbY : Below w8.heap.size w8 Y := by rw [hY]; exact fbone _
  have hrY : Y.heap[w8.heap.size]? = some (.cells #[.bool (dyN F1 n1), b, .int .i64 (dyE F1 e1)] 33 (0, 0)) := by rw [hY]; exact row_chain11
  have HD := Lib.hid (hd1.below hbY)
  have HRD := Lib.hid hrY
  have HWY := Lib.hid (HW7.out.trans ((bthen hb8 hbY).mono h7s))
  have hYs := HWY.out.size
  clear hd1 hb8 hbY hrY c10 c11 c12 c13 c14 c15
  go_upto_region 7 with fail
  rw [← hY]
  clear hY
  go_wp2_with fail
  refine (spSmall 1 Y (by decide)).mono ?_
  rintro _ wA ⟨r, rfl, hr, hbA⟩
  have hSr := hr.isS
  have HRr := Lib.hid hr
  have HWA := Lib.hid (HWY.out.trans (hbA.mono hYs))
  have hAs := HWA.out.size
  have HBA := Lib.hid hbA
  clear hr hbA
  go_wp2_with fail
  refine (whole_any (-1) wA (by omega) (by omega)).mono ?_
  rintro _ wB ⟨_, rfl, ⟨o, rfl, ho⟩, hbB⟩
  have hSo := ho.isS
  have HO := Lib.hid ho
  have HRr2 := Lib.hid (HRr.out.below hbB)
  have HBB := Lib.hid (bthen HBA.out hbB)
  have HWB := Lib.hid (HWA.out.trans (hbB.mono hAs))
  have hBs := HWB.out.size
  clear ho hbB
  go_wp2_with fail
  refine (dSum_sm false _ r o 64 0 1 _ wB HRr2.out HO.out (Nat.le_trans bl_one' (by decide)) (Nat.le_trans bl_one' (by decide)) (by decide) (by decide)).mono ?_
  rintro _ wC ⟨ng, c, T, rfl, hcn, hs, hbC⟩
  obtain ⟨rfl, rfl⟩ : ng = false ∧ T = 18446744073709551615 := u64_top hs
  rw [show min (64 : Int) 0 = 0 from rfl]
  have hSc := hcn.isS
  obtain ⟨Z, hZ⟩ : ∃ Z, Z = wC.alloc (.cells #[.bool false, c, .int .i64 0] 33) := ⟨_, rfl⟩
  have hbZ : Below wC.heap.size wC Z := by rw [hZ]; exact fbone _
  have hrZ : Z.heap[wC.heap.size]? = some (.cells #[.bool false, c, .int .i64 0] 33 (0, 0)) := by rw [hZ]; exact row_chain11
  have hbYZ := bthen HBB.out (bthen hbC hbZ)
  have HCN := Lib.hid (hcn.below hbZ)
  have HRZ := Lib.hid hrZ
  have hrD := keep_row hbYZ HRD.out
  have HRD2 := Lib.hid hrD
  have HD2 := Lib.hid (HD.out.below hbYZ)
  have HWZ := Lib.hid (HWB.out.trans ((bthen hbC hbZ).mono hBs))
  have hZs := HWZ.out.size
  obtain ⟨d0, d1, d2, -, -, -⟩ := row3 hrD
  obtain ⟨z0, z1, z2, -, -, -⟩ := row3 hrZ
  clear hcn hs hbC hbZ hrZ hbYZ hrD
  go_upto_region 8 with fail
  rw [← hZ]
  clear hZ
  go_wp2_with fail
  refine (dSign (dyN F1 n1) b (dyE F1 e1) (dyM F1 (wv xs1)) Z HD2.out).mono ?_
  rintro _ wD ⟨rfl, hbD⟩
  have hrD := keep_row hbD HRD2.out
  have hrZ := keep_row hbD HRZ.out
  have HRD3 := Lib.hid hrD
  have HD3 := Lib.hid (HD2.out.below hbD)
  have HCN3 := Lib.hid (HCN.out.below hbD)
  have HWD := Lib.hid (HWZ.out.trans (hbD.mono hZs))
  have hDs := HWD.out.size
  clear d0 d1 d2 z0 z1 z2 hbD
  obtain ⟨d0, d1, d2, -, -, -⟩ := row3 hrD
  obtain ⟨z0, z1, z2, -, -, -⟩ := row3 hrZ
  clear hrD hrZ
  obtain ⟨sg, hsg⟩ : ∃ sg, sg = sgD (dyN F1 n1) (dyM F1 (wv xs1)) := ⟨_, rfl⟩
  rw [← hsg]
  by_cases hneg : sg < 0
  · have t1 : decide (sg < 0) = true := decide_eq_true hneg
    have K : Hid (F1 = 1 ∧ n1 = true) := Lib.hid (dyN_tt (sgD_lt (hsg ▸ hneg)).1)
    have HV0 : Hid (V = 0) := Lib.hid (by rw [HV.out]; unfold u64V; rw [K.out.1, K.out.2]; rfl)
    have HA0 : Hid (A = 1) := Lib.hid (by rw [HA.out]; unfold u64A; rw [K.out.1, K.out.2]; rfl)
    have tv : ((V : Int) == 0) = true := by rw [HV0.out]; rfl
    have ta : (A == 1) = true := by rw [HA0.out]; rfl
    clear hsg hneg
    go_wp2
    go_ret
    exact ⟨rfl, HWD.out⟩
  have t1 : decide (sg < 0) = false := decide_eq_false hneg
  have HNP : Hid (F1 = 1 → n1 = false) := Lib.hid (fun h => by
    cases hn : n1
    · rfl
    · refine absurd ?_ hneg
      rw [hsg, show dyN F1 n1 = n1 from if_pos h, hn, show dyM F1 (wv xs1) = wv xs1 from if_pos h, sgD_tt (HPOS.out h)]
      decide)
  have HNF : Hid (dyN F1 n1 = false) := Lib.hid (by
    unfold dyN
    split
    · exact HNP.out (by assumption)
    · rfl)
  clear hsg hneg
  rw [HNF.out] at d0
  go_wp2_with fail
  refine (order_real 60000 100000 1 1 false false b c (dyE F1 e1) 0 (dyM F1 (wv xs1)) 18446744073709551615 wD HD3.out HCN3.out (by have := HBD.out; omega) (by have := HBD.out; omega) (by have := HBD.out; omega) bl_top64 (by decide) (by decide) (by decide) (by decide)).mono ?_
  rintro _ wE ⟨rfl, hbE⟩
  have hrD := keep_row hbE HRD3.out
  have HD4 := Lib.hid (HD3.out.below hbE)
  have HWE := Lib.hid (HWD.out.trans (hbE.mono hDs))
  have hEs := HWE.out.size
  clear d0 d1 d2 z0 z1 z2 hbE
  obtain ⟨d0, d1, d2, -, -, -⟩ := row3 hrD
  clear hrD
  obtain ⟨C, hC⟩ : ∃ C, C = cmpI (sI false (dyM F1 (wv xs1) * 2 ^ (dyE F1 e1 - min (dyE F1 e1) 0).toNat)) (sI false (18446744073709551615 * 2 ^ (0 - min (dyE F1 e1) 0).toNat)) := ⟨_, rfl⟩
  rw [← hC]
  have HC := Lib.hid hC
  clear hC
  have HZ0 : Hid (F1 ≠ 1 → C ≤ 0) := Lib.hid (fun h => by
    rw [HC.out, show dyM F1 (wv xs1) = 0 from if_neg h, Nat.zero_mul]
    refine cmpI_nonpos ?_
    simp only [sI, Bool.false_eq_true, if_false]; omega)
  by_cases hc : 0 < C
  · have t2 : decide (0 < C) = true := decide_eq_true hc
    have K : Hid (V = 18446744073709551615 ∧ A = -1) := Lib.hid (by
      have hf : F1 = 1 := by
        refine Classical.byContradiction fun h => ?_
        have := HZ0.out h; omega
      rw [HV.out, HA.out, hf, HNP.out hf]
      refine u64_more (HPOS.out hf) ?_
      have := HC.out
      rw [show dyM F1 (wv xs1) = wv xs1 from if_pos hf, show dyE F1 e1 = e1 from if_pos hf] at this
      rw [← this]; exact hc)
    have tv : ((V : Int) == 18446744073709551615) = true := by rw [K.out.1]; rfl
    have ta : (A == -1) = true := by rw [K.out.2]; rfl
    clear hc
    go_wp2
    go_ret
    exact ⟨rfl, HWE.out⟩
  have t2 : decide (0 < C) = false := decide_eq_false hc
  have K : Hid (V = trn (dyM F1 (wv xs1)) (dyE F1 e1) ∧ (A = 0 ∨ exT (dyM F1 (wv xs1)) (dyE F1 e1) = false)) := Lib.hid (by
    by_cases hf : F1 = 1
    · rw [HV.out, HA.out, show dyM F1 (wv xs1) = wv xs1 from if_pos hf, show dyE F1 e1 = e1 from if_pos hf, HNP.out hf]
      have h := u64_mid (M := wv xs1) (E := e1) (HPOS.out hf) (by
        have := HC.out
        rw [show dyM F1 (wv xs1) = wv xs1 from if_pos hf, show dyE F1 e1 = e1 from if_pos hf] at this
        rw [← this]; omega)
      rw [hf]; exact h
    · rw [HV.out, HA.out, show dyM F1 (wv xs1) = 0 from if_neg hf]
      refine ⟨?_, .inl (if_pos hf)⟩
      rw [show u64V F1 n1 (wv xs1) e1 = 0 from if_pos hf]
      unfold trn; rw [Nat.zero_mul]; exact (Nat.zero_div _).symm)
  clear hc
  obtain ⟨T, hT⟩ : ∃ T, T = trn (dyM F1 (wv xs1)) (dyE F1 e1) := ⟨_, rfl⟩
  obtain ⟨sd, hsd⟩ : ∃ sd, sd = accI false (exT (dyM F1 (wv xs1)) (dyE F1 e1)) := ⟨_, rfl⟩
  have HCUT := Lib.hid (cut2 false b (dyM F1 (wv xs1)) (dyE F1 e1) wE HD4.out (nl_of_bl (by have := HBD.out; omega)) (by have := HBD.out; omega))
  rw [← hT, ← hsd] at HCUT
  have hVT : V = T := by rw [K.out.1, hT]
  have hsdb : -1 ≤ sd ∧ sd ≤ 1 := by
    rw [hsd]; unfold accI; cases (exT (dyM F1 (wv xs1)) (dyE F1 e1)) <;> decide
  have HAS : Hid (A = 0 ∨ sd ≠ 0) := Lib.hid (by
    rcases K.out.2 with h | h
    · exact .inl h
    · right; rw [hsd, h]; decide)
  clear hT hsd
  subst hVT
  have HEB := Lib.hid HBD.out
  have hEb1 : -1000 ≤ dyE F1 e1 := by have := HBD.out; omega
  have hEb2 : dyE F1 e1 ≤ 1000 := by have := HBD.out; omega
  go_wp2_with fail
  refine HCUT.out.mono ?_
  rintro _ wF ⟨q, rfl, hq, hbF⟩
  have hSq := hq.isS
  have HQ := Lib.hid hq
  have HWF := Lib.hid (HWE.out.trans (hbF.mono hEs))
  have hFs := HWF.out.size
  clear hq hbF d0 d1 d2
  have HOF := Lib.hid (show Calls Tryd.prog 26 #[.slice (some ⟨wF.heap.size, 0, none⟩) 1 1] (wF.alloc (.cells #[.int .u64 (V : Int)] 22)) fun e' w' => ∃ r, e' = .returned r ∧ NatV w' r V ∧ Below wF.heap.size wF w' from by
    refine (spOf (.slice (some ⟨wF.heap.size, 0, none⟩) 1 1) [V] _ (rw_one (by omega)) (by simp)).mono ?_
    rintro _ w' ⟨r, rfl, h1, h2⟩
    rw [wv_one] at h1
    exact ⟨r, rfl, h1, bthen (fbone _) h2⟩)
  have HCMP := Lib.hid (fun (W : World) (r : Value) (h : NatV W r V) (hb : Below wF.heap.size wF W) => spCmp r q V V W h (HQ.out.below hb) (nl_le_u64 hbv) (nl_le_u64 hbv))
  rw [cmpN_eq] at HCMP
  by_cases ha : A = 0
  · have ta : (A == 0) = true := by rw [ha]; rfl
    clear ha
    go_wp2_with fail
    refine HOF.out.mono ?_
    rintro _ wG ⟨r2, rfl, hr2, hbG⟩
    have hSr2 := hr2.isS
    have HC2 := Lib.hid (HCMP.out wG r2 hr2 hbG)
    have HWG := Lib.hid (HWF.out.trans (hbG.mono hFs))
    have hGs := HWG.out.size
    clear hr2 hbG
    go_wp2_with fail
    refine HC2.out.mono ?_
    rintro _ wH ⟨rfl, hbH⟩
    have HWH := Lib.hid (HWG.out.trans (hbH.mono hGs))
    clear hbH
    go_wp2
    go_ret
    exact ⟨rfl, HWH.out⟩
  · have ta : (A == 0) = false := by rw [beq_eq_false_iff_ne]; exact ha
    have ts : (sd != 0) = true := by
      rw [bne_iff_ne]; exact HAS.out.resolve_left ha
    clear ha
    go_wp2_with fail
    refine HOF.out.mono ?_
    rintro _ wG ⟨r2, rfl, hr2, hbG⟩
    have hSr2 := hr2.isS
    have HC2 := Lib.hid (HCMP.out wG r2 hr2 hbG)
    have HWG := Lib.hid (HWF.out.trans (hbG.mono hFs))
    have hGs := HWG.out.size
    clear hr2 hbG
    go_wp2_with fail
    refine HC2.out.mono ?_
    rintro _ wH ⟨rfl, hbH⟩
    have HWH := Lib.hid (HWG.out.trans (hbH.mono hGs))
    clear hbH
    go_wp2
    go_ret
    exact ⟨rfl, HWH.out⟩
end Go.Proofs.YtjapoobegjoblaaDoor
