/-
Texts of this proof, joined: IfE IfA IfB FlY ImA IfC LwE LwF IfD IfF. No condition.
-/
import Derived.Test.YtgclooabjilniaaGreatDoorK06
import Derived.Test.YtgclooabjilniaaGreatDoorK14
import Derived.Test.YtgclooabjilniaaGreatDoorK19
import Derived.Test.YtgclooabjilniaaGreatDoorK20
import Derived.Test.YtgclooabjilniaaGreatDoorK21
import Derived.Test.YtgclooabjilniaaGreatDoorK23
import Derived.OwnWalk
/-
A number of 64 bits as a float, at its place. No condition.
-/
namespace Go.Proofs.YtgclooabjilniaaGreatDoor
open Go.RowKit

theorem topN_word {M : Nat} (h : 0 < M) (hM : M < 18446744073709551616) : topN M = [M * 2 ^ (64 - bl M)] := by
  have hb : bl M ≤ 64 := bl_le (k := 64) hM
  have hp := bl_pos h
  have hn : nw M = 1 := by have := nw_bl h; omega
  have hl : M * 2 ^ (64 - bl M) < 18446744073709551616 := by
    have h1 : M * 2 ^ (64 - bl M) < 2 ^ bl M * 2 ^ (64 - bl M) := Nat.mul_lt_mul_of_pos_right (lt_bl M) (Nat.two_pow_pos _)
    rw [← Nat.pow_add, show bl M + (64 - bl M) = 64 by omega] at h1
    exact h1
  unfold topN wdsN
  rw [hn, Nat.mul_one]
  simp only [List.range_succ, List.range_zero, List.nil_append, List.map_cons, List.map_nil]
  unfold wdg
  rw [Nat.pow_zero, Nat.div_one, Nat.mod_eq_of_lt hl]
theorem SIV.at {w : World} {B b m : Nat} {x : Int} (h : SIV w B b m x) (hB : B ≤ b) (h1 : -9223372036854775808 ≤ x) (h2 : x ≤ 9223372036854775807) : FloatAt w B b 64 m (fO x.natAbs) (decide (x < 0)) x.natAbs 0 := by
  rcases h with ⟨rfl, v, e, hF⟩ | ⟨h0, v, hF, ho⟩
  · exact ⟨hB, v, e, hF, fun hc => absurd hc (by decide)⟩
  · have hf : fO x.natAbs = 1 := if_neg (by omega)
    rw [hf]
    refine ⟨hB, v, _, hF, fun _ => ⟨by omega, ?_⟩⟩
    rw [topN_word (by omega) (by omega)]
    exact ho
theorem dy_fO (n : Bool) (M : Nat) : sI (dyN (fO M) n) (lo (dyM (fO M) M) (dyE (fO M) 0) 0) = sI n M := by
  by_cases h : M = 0
  · subst h; cases n <;> rfl
  · rw [show fO M = 1 from if_neg h]
    show sI n (lo M 0 0) = sI n M
    rw [lo_self]
end Go.Proofs.YtgclooabjilniaaGreatDoor

/-
Floats: what Int64 answers, in plain numbers; the top word. No condition.
-/
namespace Go.Proofs.YtgclooabjilniaaGreatDoor
open Go.RowKit

/-- M times 2 to X, cut to a whole number; whether it is one. -/
def trn (M : Nat) (X : Int) : Nat := M * 2 ^ X.toNat / 2 ^ (-X).toNat
def exT (M : Nat) (X : Int) : Bool := decide (M % 2 ^ (-X).toNat = 0)
/-- The number of 64 bits that is nearest towards zero, and the side. -/
def i64V (n : Bool) (M : Nat) (X : Int) : Int := if trn M X < 9223372036854775808 then sI n (trn M X) else if n then -9223372036854775808 else 9223372036854775807
def i64A (n : Bool) (M : Nat) (X : Int) : Int := if exT M X = true ∧ (trn M X < 9223372036854775808 ∨ n = true ∧ trn M X = 9223372036854775808) then 0 else if n then 1 else -1
theorem trn_shl (M : Nat) (E : Int) (i : Nat) : trn (M * 2 ^ i) (E - i) = trn M E := by
  unfold trn
  rcases Int.le_total 0 (E - i) with h | h
  · rw [show (-(E - (i : Int))).toNat = 0 by omega, show (-E).toNat = 0 by omega, Nat.pow_zero, Nat.div_one, Nat.div_one, Nat.mul_assoc, ← Nat.pow_add, show i + (E - (i : Int)).toNat = E.toNat by omega]
  · rw [show (E - (i : Int)).toNat = 0 by omega, Nat.pow_zero, Nat.mul_one]
    rcases Int.le_total 0 E with h1 | h1
    · obtain ⟨d, hd⟩ : ∃ d, d = (-(E - (i : Int))).toNat := ⟨_, rfl⟩
      rw [← hd, show (-E).toNat = 0 by omega, Nat.pow_zero, Nat.div_one, show i = E.toNat + d by omega, Nat.pow_add, ← Nat.mul_assoc]
      exact Nat.mul_div_cancel _ (Nat.two_pow_pos d)
    · rw [show (-(E - (i : Int))).toNat = (-E).toNat + i by omega, show E.toNat = 0 by omega, Nat.pow_zero, Nat.mul_one, Nat.pow_add]
      exact Nat.mul_div_mul_right _ _ (Nat.two_pow_pos i)
theorem trn_deq {M N : Nat} {E F : Int} (h : deq M E N F) : trn M E = trn N F := by
  obtain ⟨i, j, h1, h2⟩ := h
  rw [← trn_shl M E i, ← trn_shl N F j, h1, h2]
theorem trn_lt {M k : Nat} {E : Int} (h : (bl M : Int) + E ≤ k) : trn M E < 2 ^ k := by
  unfold trn
  have h1 := lt_bl M
  rcases Int.le_total 0 E with h2 | h2
  · rw [show (-E).toNat = 0 by omega, Nat.pow_zero, Nat.div_one]
    have h3 : M * 2 ^ E.toNat < 2 ^ bl M * 2 ^ E.toNat := Nat.mul_lt_mul_of_pos_right h1 (Nat.two_pow_pos _)
    rw [← Nat.pow_add] at h3
    exact Nat.lt_of_lt_of_le h3 (Nat.pow_le_pow_right (by decide) (by omega))
  · rw [show E.toNat = 0 by omega, Nat.pow_zero, Nat.mul_one]
    refine Nat.div_lt_of_lt_mul ?_
    rw [← Nat.pow_add]
    exact Nat.lt_of_lt_of_le h1 (Nat.pow_le_pow_right (by decide) (by omega))
theorem trn_ge {M k : Nat} {E : Int} (hM : 0 < M) (h : (k : Int) + 1 ≤ (bl M : Int) + E) : 2 ^ k ≤ trn M E := by
  unfold trn
  have h1 := bl_ge hM
  have h0 := bl_pos hM
  rcases Int.le_total 0 E with h2 | h2
  · rw [show (-E).toNat = 0 by omega, Nat.pow_zero, Nat.div_one]
    refine Nat.le_trans (Nat.pow_le_pow_right (by decide) (show k ≤ bl M - 1 + E.toNat by omega)) ?_
    rw [Nat.pow_add]
    exact Nat.mul_le_mul_right _ h1
  · rw [show E.toNat = 0 by omega, Nat.pow_zero, Nat.mul_one, Nat.le_div_iff_mul_le (Nat.two_pow_pos _), ← Nat.pow_add]
    exact Nat.le_trans (Nat.pow_le_pow_right (by decide) (by omega)) h1
theorem exT_tz {M : Nat} {X : Int} (hM : 0 < M) : exT M X = decide (0 ≤ X + (tz M : Nat)) := by
  unfold exT
  by_cases h : 0 ≤ X + (tz M : Nat)
  · rw [decide_eq_true h, decide_eq_true (tz_low hM (by omega))]
  · rw [decide_eq_false h, decide_eq_false (fun hc => h (by have := tz_dvd hM hc; omega))]
theorem exT_deq {M N : Nat} {E F : Int} (hM : 0 < M) (h : deq M E N F) : exT M E = exT N F := by
  rw [exT_tz hM, exT_tz (h.pos hM), (h.od hM).2]
theorem i64_deq {n : Bool} {M N : Nat} {E F : Int} (hM : 0 < M) (h : deq M E N F) : i64V n M E = i64V n N F ∧ i64A n M E = i64A n N F := by
  unfold i64V i64A; rw [trn_deq h, exT_deq hM h]; exact ⟨rfl, rfl⟩
theorem i64_small {n : Bool} {M : Nat} {X : Int} (h : (bl M : Int) + X ≤ 63) : i64V n M X = sI n (trn M X) ∧ i64A n M X = accI n (exT M X) := by
  have h1 : trn M X < 2 ^ 63 := trn_lt (k := 63) (by omega)
  have h2 : trn M X < 9223372036854775808 := h1
  unfold i64V i64A accI
  rw [if_pos h2]
  refine ⟨rfl, ?_⟩
  by_cases h3 : exT M X = true
  · rw [if_pos ⟨h3, .inl h2⟩, if_pos h3]
  · rw [if_neg (fun hc => h3 hc.1), if_neg h3]
theorem i64_big {n : Bool} {M : Nat} {X : Int} (hM : 0 < M) (h : 64 ≤ (bl M : Int) + X) :
    i64V n M X = (if n then -9223372036854775808 else 9223372036854775807) ∧ i64A n M X = (if n = true ∧ (bl M : Int) + X = 64 ∧ bl (od M) = 1 then 0 else if n then 1 else -1) := by
  have h1 : 2 ^ 63 ≤ trn M X := trn_ge (k := 63) hM (by omega)
  have h2 : ¬ trn M X < 9223372036854775808 := by
    have : (9223372036854775808 : Nat) ≤ trn M X := h1
    omega
  have ho := od_tz hM
  have hbo := bl_od hM
  have key : (exT M X = true ∧ (trn M X < 9223372036854775808 ∨ n = true ∧ trn M X = 9223372036854775808)) ↔ (n = true ∧ (bl M : Int) + X = 64 ∧ bl (od M) = 1) := by
    constructor
    · rintro ⟨k1, k2⟩
      rcases k2 with k2 | ⟨k2, k3⟩
      · exact absurd k2 h2
      · rw [exT_tz hM] at k1
        have k1' := of_decide_eq_true k1
        obtain ⟨s, hs⟩ := Int.eq_ofNat_of_zero_le k1'
        have k4 : trn M X = od M * 2 ^ s := by
          rw [trn_deq (od_deq hM X), hs]
          unfold trn
          rw [show (-(s : Int)).toNat = 0 by omega, Nat.pow_zero, Nat.div_one]
          simp
        have k5 : od M * 2 ^ s = 1 * 2 ^ 63 := by rw [← k4, k3]
        obtain ⟨k6, k7⟩ := odd_two ho.2 (by decide) k5
        have k8 : bl (od M) = 1 := by rw [k7]; decide
        exact ⟨k2, by omega, k8⟩
    · rintro ⟨k1, k2, k3⟩
      have k4 : 0 ≤ X + (tz M : Nat) := by omega
      refine ⟨by rw [exT_tz hM]; exact decide_eq_true k4, .inr ⟨k1, ?_⟩⟩
      have k5 : X + (tz M : Nat) = ((63 : Nat) : Int) := by omega
      have k6 : od M = 1 := by
        have := lt_bl (od M); rw [k3] at this
        have := od_pos hM
        omega
      rw [trn_deq (od_deq hM X), k5, k6]
      decide
  unfold i64V i64A
  rw [if_neg h2]
  refine ⟨rfl, ?_⟩
  by_cases hc : n = true ∧ (bl M : Int) + X = 64 ∧ bl (od M) = 1
  · rw [if_pos (key.2 hc), if_pos hc]
  · rw [if_neg (fun h => hc (key.1 h)), if_neg hc]
theorem i64_zero (n : Bool) (X : Int) : i64V n 0 X = 0 ∧ i64A n 0 X = 0 := by
  have h1 : trn 0 X = 0 := by unfold trn; rw [Nat.zero_mul]; exact Nat.zero_div _
  have h2 : exT 0 X = true := by unfold exT; rw [Nat.zero_mod]; rfl
  unfold i64V i64A
  rw [h1, h2, if_pos (by decide), if_pos ⟨rfl, .inl (by decide)⟩]
  exact ⟨by cases n <;> rfl, rfl⟩
/-- The top word. -/
theorem wv_top {ws : List Nat} (h : ∀ d ∈ ws, d < 18446744073709551616) (h0 : 0 < ws.length) : ws.getD (ws.length - 1) 0 = wv ws / 2 ^ (64 * (ws.length - 1)) := by
  have h1 := wv_lt h
  rw [← wv_dig h]
  unfold wdg
  have e1 : (18446744073709551616 : Nat) ^ (ws.length - 1) = 2 ^ (64 * (ws.length - 1)) := by rw [Nat.pow_mul]
  rw [e1, Nat.mod_eq_of_lt]
  refine Nat.div_lt_of_lt_mul ?_
  have e2 : (18446744073709551616 : Nat) ^ ws.length = 2 ^ (64 * (ws.length - 1)) * 18446744073709551616 := by
    rw [← e1, ← Nat.pow_succ]; congr 1; omega
  rw [← e2]; exact h1
set_option maxRecDepth 100000 in
theorem msb64_any (v : Value) (ws : List Nat) (w : World) (hv : RW w v ws) (h0 : 0 < ws.length) (hl : ws.length ≤ 1000000) :
    Calls Tryz.prog 67 #[v] w fun e' w' => e' = .returned (.int .u64 (ws.getD (ws.length - 1) 0 : Nat)) ∧ w = w' := by
  have hS := hv.isS
  have hL := hv.len
  have hc := hv.cell (ws.length - 1) (by omega)
  obtain ⟨d, hd⟩ : ∃ d, d = ws.getD (ws.length - 1) 0 := ⟨_, rfl⟩
  rw [← hd] at hc ⊢
  obtain ⟨k, hk⟩ : ∃ k, ws.length = k + 1 := ⟨ws.length - 1, by omega⟩
  rw [hk] at hL hl
  rw [hk, Nat.add_sub_cancel] at hc
  have e1 : ((k + 1 : Nat) : Int) - 1 = (k : Int) := by omega
  clear hv hd h0 hk
  go_enter Tryz.func67, Tryz.ntmps67
  go_wp2
  go_ret
  exact ⟨rfl, rfl⟩
end Go.Proofs.YtgclooabjilniaaGreatDoor

/-
Floats: Int64. No condition.
-/
namespace Go.Proofs.YtgclooabjilniaaGreatDoor
open Go.RowKit

set_option maxRecDepth 100000 in
set_option maxHeartbeats 3200000 in
theorem int64_one (c p m : Nat) (a e : Int) (neg : Bool) (v : Value) (ws : List Nat) (w : World) (h : FltR w c p m a 1 neg v e) (hv : RW w v ws) (hg : Good ws p) (hT : TabW w) (he1 : -1000000000 ≤ e) (he2 : e ≤ 1000000000) :
    Calls Tryz.prog 40 #[.pointer (some ⟨c, 0, none⟩)] w fun e' w' => e' = .returned (.tuple #[.int .i64 (i64V neg (wv ws) (e - 64 * (ws.length : Int))), .int .i8 (i64A neg (wv ws) (e - 64 * (ws.length : Int)))]) ∧ ∃ n, w' = w.drewN n := by
  have hS := hv.isS
  have h0 := hg.posv
  have hb := hg.bl
  have hod := bl_od h0
  have htz := tz_le h0
  obtain ⟨X, hX⟩ : ∃ X : Int, X = e - 64 * (ws.length : Int) := ⟨_, rfl⟩
  rw [← hX]
  obtain ⟨q, hq⟩ : ∃ q, q = bl (od (wv ws)) := ⟨_, rfl⟩
  rw [← hq] at hod
  have hqb : q ≤ 64000000 := by have := hg.2.1; omega
  have HMP := Lib.hid (fun (k : Nat) => minPrec_one c p m a e neg v ws (w.drewN k) (h.drewN k) (hv.below (undrewN' (Below.refl _ _))) h0 hg.2.1 hg.bl (hT.drewN k))
  rw [← hq] at HMP
  have HMS : Hid (∀ k : Nat, Calls Tryz.prog 67 #[v] (w.drewN k) fun e' w' => e' = .returned (.int .u64 (ws.getD (ws.length - 1) 0 : Nat)) ∧ w' = w.drewN k) := Lib.hid (fun k => (msb64_any v ws (w.drewN k) (hv.below (undrewN' (Below.refl _ _))) hg.1 hg.2.1).mono (fun _ _ h => ⟨h.1, h.2.symm⟩))
  have htop := wv_top hg.2.2.1 hg.1
  have htl := hg.2.2.1
  obtain ⟨t, ht⟩ : ∃ t, t = ws.getD (ws.length - 1) 0 := ⟨_, rfl⟩
  have htb : t < 18446744073709551616 := by
    rw [ht, List.getD_eq_getElem?_getD]
    have hl : ws.length - 1 < ws.length := by have := hg.1; omega
    rw [List.getElem?_eq_getElem hl]
    exact htl _ (List.getElem_mem hl)
  rw [← ht] at HMS htop
  have hlen := hg.1
  obtain ⟨c0, c1, c2, c3', c4, c5, c6⟩ := h.cells
  have c3 : w.cell? ⟨c, 3, none⟩ = some (.int .u8 1) := c3'
  obtain ⟨V, hV⟩ : ∃ V, V = i64V neg (wv ws) X := ⟨_, rfl⟩
  obtain ⟨A, hA⟩ : ∃ A, A = i64A neg (wv ws) X := ⟨_, rfl⟩
  rw [← hV, ← hA]
  have hexT := exT_tz (X := X) h0
  obtain ⟨ac, hac⟩ : ∃ ac : Int, ac = (if neg then 1 else -1) := ⟨_, rfl⟩
  have hacb : -1 ≤ ac ∧ ac ≤ 1 := by rw [hac]; split <;> omega
  have HAC := Lib.hid hac
  by_cases h1 : e ≤ 0
  · have t1 : decide (e ≤ 0) = true := decide_eq_true h1
    obtain ⟨k1, k2⟩ := i64_small (n := neg) (M := wv ws) (X := X) (by omega)
    have HV0 : Hid (V = 0) := Lib.hid (by
      rw [hV, k1]
      have := trn_lt (M := wv ws) (E := X) (k := 0) (by omega)
      rw [show trn (wv ws) X = 0 by omega, show sI neg 0 = 0 by cases neg <;> rfl])
    have HA0 : Hid (A = ac) := Lib.hid (by
      rw [hA, k2, hexT, decide_eq_false (by omega), hac]; rfl)
    clear h hv hg hT h0 hb hod htz hX hq htop htl ht hlen c3' hV hA hexT hac k1 k2 h1
    go_enter Tryz.func40, Tryz.ntmps40
    go_wp2_with fail
    refine (makeAcc_any neg w).mono ?_
    rintro _ _ ⟨rfl, rfl⟩
    rw [← HAC.out]
    go_wp2
    go_ret2
    rw [HV0.out, HA0.out]
    exact ⟨rfl, 0, rfl⟩
  have t1 : decide (e ≤ 0) = false := decide_eq_false h1
  by_cases h2 : e ≤ 63
  · obtain ⟨E, rfl⟩ := Int.eq_ofNat_of_zero_le (show 0 ≤ e by omega)
    have hE0 : 0 < E := by omega
    have hE63 : E ≤ 63 := by omega
    have t0 : decide (E = 0) = false := decide_eq_false (by omega)
    have t2 : decide ((E : Int) ≤ 63) = true := decide_eq_true h2
    have t2' : decide (E ≤ 63) = true := decide_eq_true hE63
    obtain ⟨k1, k2⟩ := i64_small (n := neg) (M := wv ws) (X := X) (by omega)
    obtain ⟨s, hs⟩ : ∃ s, s = 64 - E := ⟨_, rfl⟩
    have hs64 : s ≤ 63 := by omega
    have hsE : (64 : Int) - (E : Int) = (s : Int) := by omega
    obtain ⟨D, hD⟩ : ∃ D, D = 2 ^ s := ⟨_, rfl⟩
    have hD0 : 0 < D := by rw [hD]; exact Nat.two_pow_pos _
    have hS2 : (2 : Int) ^ s = (D : Int) := by rw [hD]; simp
    obtain ⟨i, hi⟩ : ∃ i, i = t / D := ⟨_, rfl⟩
    have hit : i = trn (wv ws) X := by
      rw [hi, htop, hD, Nat.div_div_eq_div_mul, ← Nat.pow_add]
      unfold trn
      rw [show X.toNat = 0 by omega, Nat.pow_zero, Nat.mul_one, show 64 * (ws.length - 1) + s = (-X).toNat by omega]
    have hib : i < 9223372036854775808 := by
      rw [hit]; exact trn_lt (k := 63) (by omega)
    have hdv : (t : Int) / (D : Int) = (i : Int) := by rw [hi]; simp
    have HV0 : Hid (V = sI neg i) := Lib.hid (by rw [hV, k1, hit])
    by_cases h3 : q ≤ E
    · have t3 : decide (q ≤ E) = true := decide_eq_true h3
      have t3' : decide ((q : Int) ≤ (E : Int)) = true := decide_eq_true (by omega)
      have HA0 : Hid (A = 0) := Lib.hid (by rw [hA, k2, hexT, decide_eq_true (by omega)]; rfl)
      clear h hv hg hT h0 hb hod htz hX hq htop htl ht hlen c3' hV hA hexT hac k1 k2 h1 h2 hs hD hi hit h3 HAC
      cases neg
      · have HV1 : Hid (V = (i : Int)) := Lib.hid (by rw [HV0.out]; rfl)
        clear HV0
        go_enter Tryz.func40, Tryz.ntmps40
        go_wp2_with fail
        refine (makeAcc_any false w).mono ?_
        rintro _ _ ⟨rfl, rfl⟩
        go_wp2_with fail
        go_quiet ((go_at_call 67; exact Calls.quiet_of_same (HMS.out _)))
        go_wp2_with fail
        go_quiet ((go_at_call 68; with_reducible refine (HMP.out _).mono ?_; rintro _ _ ⟨rfl, n, rfl⟩; exact ⟨rfl, _, by rw [World.drewN_drewN, Nat.add_assoc]⟩))
        go_wp2
        go_ret2
        rw [HV1.out, HA0.out]
        exact ⟨rfl, _, by rw [World.drewN_drewN]⟩
      · have HV1 : Hid (V = -(i : Int)) := Lib.hid (by rw [HV0.out]; rfl)
        clear HV0
        go_enter Tryz.func40, Tryz.ntmps40
        go_wp2_with fail
        refine (makeAcc_any true w).mono ?_
        rintro _ _ ⟨rfl, rfl⟩
        go_wp2_with fail
        go_quiet ((go_at_call 67; exact Calls.quiet_of_same (HMS.out _)))
        go_wp2_with fail
        go_quiet ((go_at_call 68; with_reducible refine (HMP.out _).mono ?_; rintro _ _ ⟨rfl, n, rfl⟩; exact ⟨rfl, _, by rw [World.drewN_drewN, Nat.add_assoc]⟩))
        go_wp2
        go_ret2
        rw [HV1.out, HA0.out]
        exact ⟨rfl, _, by rw [World.drewN_drewN]⟩
    · have t3 : decide (q ≤ E) = false := decide_eq_false h3
      have t3' : decide ((q : Int) ≤ (E : Int)) = false := decide_eq_false (by omega)
      have HA0 : Hid (A = ac) := Lib.hid (by rw [hA, k2, hexT, decide_eq_false (by omega), hac]; rfl)
      clear h hv hg hT h0 hb hod htz hX hq htop htl ht hlen c3' hV hA hexT hac k1 k2 h1 h2 hs hD hi hit h3
      cases neg
      · have HV1 : Hid (V = (i : Int)) := Lib.hid (by rw [HV0.out]; rfl)
        clear HV0
        go_enter Tryz.func40, Tryz.ntmps40
        go_wp2_with fail
        refine (makeAcc_any false w).mono ?_
        rintro _ _ ⟨rfl, rfl⟩
        go_wp2_with fail
        go_quiet ((go_at_call 67; exact Calls.quiet_of_same (HMS.out _)))
        go_wp2_with fail
        go_quiet ((go_at_call 68; with_reducible refine (HMP.out _).mono ?_; rintro _ _ ⟨rfl, n, rfl⟩; exact ⟨rfl, _, by rw [World.drewN_drewN, Nat.add_assoc]⟩))
        go_wp2
        go_ret2
        rw [HV1.out, HA0.out, HAC.out]
        exact ⟨rfl, _, by rw [World.drewN_drewN]⟩
      · have HV1 : Hid (V = -(i : Int)) := Lib.hid (by rw [HV0.out]; rfl)
        clear HV0
        go_enter Tryz.func40, Tryz.ntmps40
        go_wp2_with fail
        refine (makeAcc_any true w).mono ?_
        rintro _ _ ⟨rfl, rfl⟩
        go_wp2_with fail
        go_quiet ((go_at_call 67; exact Calls.quiet_of_same (HMS.out _)))
        go_wp2_with fail
        go_quiet ((go_at_call 68; with_reducible refine (HMP.out _).mono ?_; rintro _ _ ⟨rfl, n, rfl⟩; exact ⟨rfl, _, by rw [World.drewN_drewN, Nat.add_assoc]⟩))
        go_wp2
        go_ret2
        rw [HV1.out, HA0.out, HAC.out]
        exact ⟨rfl, _, by rw [World.drewN_drewN]⟩
  have t2 : decide (e ≤ 63) = false := decide_eq_false h2
  obtain ⟨k1, k2⟩ := i64_big (n := neg) (M := wv ws) (X := X) h0 (by omega)
  cases neg
  · have HV0 : Hid (V = 9223372036854775807) := Lib.hid (by rw [hV, k1]; rfl)
    have HA0 : Hid (A = -1) := Lib.hid (by rw [hA, k2, if_neg (fun h => absurd h.1 (by decide))]; rfl)
    clear h hv hg hT h0 hb hod htz hX hq htop htl ht hlen c3' hV hA hexT hac k1 k2 h1 h2
    go_enter Tryz.func40, Tryz.ntmps40
    go_wp2_with fail
    refine (makeAcc_any false w).mono ?_
    rintro _ _ ⟨rfl, rfl⟩
    go_wp2
    go_ret2
    rw [HV0.out, HA0.out]
    exact ⟨rfl, 0, rfl⟩
  · have HV0 : Hid (V = -9223372036854775808) := Lib.hid (by rw [hV, k1]; rfl)
    by_cases h3 : e = 64
    · have t3 : (e == 64) = true := by rw [h3]; rfl
      by_cases h4 : q = 1
      · have t4 : ((q : Int) == 1) = true := by rw [h4]; rfl
        have HA0 : Hid (A = 0) := Lib.hid (by rw [hA, k2, if_pos ⟨rfl, by omega, by rw [← hq, h4]⟩])
        clear h hv hg hT h0 hb hod htz hX hq htop htl ht hlen c3' hV hA hexT hac k1 k2 h1 h2 h3 h4
        go_enter Tryz.func40, Tryz.ntmps40
        go_wp2_with fail
        refine (makeAcc_any true w).mono ?_
        rintro _ _ ⟨rfl, rfl⟩
        go_wp2_with fail
        refine (HMP.out 0).mono ?_
        rintro _ _ ⟨rfl, n1, rfl⟩
        go_wp2
        go_ret2
        rw [HV0.out, HA0.out]
        exact ⟨rfl, n1, rfl⟩
      · have t4 : ((q : Int) == 1) = false := by rw [beq_eq_false_iff_ne]; omega
        have HA0 : Hid (A = 1) := Lib.hid (by rw [hA, k2, if_neg (fun h => h4 (by rw [hq]; exact h.2.2))]; rfl)
        clear h hv hg hT h0 hb hod htz hX hq htop htl ht hlen c3' hV hA hexT hac k1 k2 h1 h2 h3 h4
        go_enter Tryz.func40, Tryz.ntmps40
        go_wp2_with fail
        refine (makeAcc_any true w).mono ?_
        rintro _ _ ⟨rfl, rfl⟩
        go_wp2_with fail
        refine (HMP.out 0).mono ?_
        rintro _ _ ⟨rfl, n1, rfl⟩
        go_wp2
        go_ret2
        rw [HV0.out, HA0.out]
        exact ⟨rfl, n1, rfl⟩
    · have t3 : (e == 64) = false := by rw [beq_eq_false_iff_ne]; omega
      have HA0 : Hid (A = 1) := Lib.hid (by rw [hA, k2, if_neg (fun h => h3 (by have := h.2.1; omega))]; rfl)
      clear h hv hg hT h0 hb hod htz hX hq htop htl ht hlen c3' hV hA hexT hac k1 k2 h1 h2 h3
      go_enter Tryz.func40, Tryz.ntmps40
      go_wp2_with fail
      refine (makeAcc_any true w).mono ?_
      rintro _ _ ⟨rfl, rfl⟩
      go_wp2
      go_ret2
      rw [HV0.out, HA0.out]
      exact ⟨rfl, 0, rfl⟩
set_option maxRecDepth 100000 in
theorem int64_zero (c p m : Nat) (a e : Int) (neg : Bool) (v : Value) (w : World) (h : FltR w c p m a 0 neg v e) :
    Calls Tryz.prog 40 #[.pointer (some ⟨c, 0, none⟩)] w fun e' w' => e' = .returned (.tuple #[.int .i64 0, .int .i8 0]) ∧ ∃ n, w' = w.drewN n := by
  obtain ⟨c0, c1, c2, c3', c4, c5, c6⟩ := h.cells
  have c3 : w.cell? ⟨c, 3, none⟩ = some (.int .u8 0) := c3'
  clear h c3'
  go_enter Tryz.func40, Tryz.ntmps40
  go_wp2
  go_ret2
  exact ⟨rfl, 0, rfl⟩
/-- Int64 of a Float's value. -/
theorem int64_val (c Bx p m f : Nat) (a : Int) (neg : Bool) (M : Nat) (X : Int) (w : World) (hx : FVal w Bx c p m a f neg M X) (hf : f ≤ 1) (hX : f = 1 → -900000000 ≤ X ∧ X + bl M ≤ 900000000) (hT : TabW w) :
    Calls Tryz.prog 40 #[.pointer (some ⟨c, 0, none⟩)] w fun e' w' => e' = .returned (.tuple #[.int .i64 (i64V neg (dyM f M) (dyE f X)), .int .i8 (i64A neg (dyM f M) (dyE f X))]) ∧ ∃ n, w' = w.drewN n := by
  obtain ⟨v, e, h1, h2⟩ := hx
  rcases (by omega : f = 0 ∨ f = 1) with rfl | rfl
  · rw [show dyM 0 M = 0 from rfl, (i64_zero neg _).1, (i64_zero neg _).2]
    exact int64_zero c p m a e neg v w h1
  · obtain ⟨hM, ws, ho, hg, hd⟩ := h2 rfl
    have h0 := hd.symm.pos hM
    have hb := hd.bl h0
    rw [hg.bl] at hb
    have := hX rfl
    obtain ⟨k1, k2⟩ := i64_deq (n := neg) h0 hd
    rw [show dyM 1 M = M from rfl, show dyE 1 X = X from rfl, ← k1, ← k2]
    exact int64_one c p m a e neg v ws w h1 (ho.rw' hg.2.2.1) hg hT (by omega) (by omega)
end Go.Proofs.YtgclooabjilniaaGreatDoor

/-
The statement on the order of two floats. No condition.
-/
namespace Go.Proofs.YtgclooabjilniaaGreatDoor
open Go.RowKit

/-- Order of the values of two reals. -/
theorem order_real (P E _f1 _f2 : Nat) (n1 n2 : Bool) (a b : Value) (e1 e2 : Int) (x y : Nat) (w : World) (ha : NatV w a x) (hb : NatV w b y)
    (hx : bl x ≤ P) (g1 : -(E : Int) ≤ e1) (g2 : e1 ≤ E) (hy : bl y ≤ P) (g3 : -(E : Int) ≤ e2) (g4 : e2 ≤ E) (hP : P ≤ 64000) (hE : E ≤ 100000000) :
    Calls Tryz.prog 25 #[.agg #[.bool n1, a, .int .i64 e1], .agg #[.bool n2, b, .int .i64 e2]] w fun e' w' =>
      e' = .returned (.int .i64 (cmpI (sI n1 (x * 2 ^ (e1 - min e1 e2).toNat)) (sI n2 (y * 2 ^ (e2 - min e1 e2).toNat)))) ∧ Below w.heap.size w w' := by
  have k1 := bl_two x (e1 - min e1 e2).toNat
  have k2 := bl_two y (e2 - min e1 e2).toNat
  exact dOrder n1 n2 a b e1 e2 (min e1 e2) x y (e1 - min e1 e2).toNat (e2 - min e1 e2).toNat w ha hb rfl (by omega) (by omega) (by omega) (by omega) (by omega) (by omega) (by omega)
    (nl_of_bl (by omega)) (nl_of_bl (by omega)) (by omega) (by omega) (nl_of_bl (by omega)) (nl_of_bl (by omega))
/-- What is asked of Cmp's answer. -/
def wantC (f1 : Nat) (n1 : Bool) (M1 : Nat) (e1 : Int) (f2 : Nat) (n2 : Bool) (M2 : Nat) (e2 : Int) : Int :=
  cmpI (sI (dyN f1 n1) (dyM f1 M1 * 2 ^ (dyE f1 e1 - min (dyE f1 e1) (dyE f2 e2)).toNat)) (sI (dyN f2 n2) (dyM f2 M2 * 2 ^ (dyE f2 e2 - min (dyE f1 e1) (dyE f2 e2)).toNat))
theorem wantC_eq {f1 f2 M1 M2 : Nat} {n1 n2 : Bool} {e1 e2 : Int} (hf1 : f1 ≤ 1) (hf2 : f2 ≤ 1) (h1 : f1 = 1 → 0 < M1) (h2 : f2 = 1 → 0 < M2) :
    cmpRV f1 n1 M1 e1 f2 n2 M2 e2 = wantC f1 n1 M1 e1 f2 n2 M2 e2 := by
  rw [cmpRV_law (a := (dyE f1 e1 - min (dyE f1 e1) (dyE f2 e2)).toNat) (b := (dyE f2 e2 - min (dyE f1 e1) (dyE f2 e2)).toNat) (e := min (dyE f1 e1) (dyE f2 e2)) hf1 hf2
    (fun h => ⟨h1 h, by subst h; simp only [dyE, if_true]; split <;> omega⟩) (fun h => ⟨h2 h, by subst h; simp only [dyE, if_true]; split <;> omega⟩)]
  unfold wantC
  rcases (by omega : f1 = 0 ∨ f1 = 1) with rfl | rfl <;> rcases (by omega : f2 = 0 ∨ f2 = 1) with rfl | rfl <;> simp [dyN, dyM, dyE, sI]
theorem cmpRV_lt {f1 f2 M1 M2 : Nat} {n1 n2 : Bool} {e1 e2 : Int} (hf1 : f1 ≤ 2) (hf2 : f2 ≤ 2) (h : endV f1 n1 < endV f2 n2) : cmpRV f1 n1 M1 e1 f2 n2 M2 e2 = -1 := by
  unfold cmpRV cmpFV
  rw [if_pos]
  unfold endV at h; unfold ordV
  split at h <;> split at h <;> cases n1 <;> cases n2 <;> simp_all <;> omega
theorem cmpRV_gt {f1 f2 M1 M2 : Nat} {n1 n2 : Bool} {e1 e2 : Int} (hf1 : f1 ≤ 2) (hf2 : f2 ≤ 2) (h : endV f2 n2 < endV f1 n1) : cmpRV f1 n1 M1 e1 f2 n2 M2 e2 = 1 := by
  unfold cmpRV cmpFV
  have : ordV f2 n2 < ordV f1 n1 := by
    unfold endV at h; unfold ordV
    split at h <;> split at h <;> cases n1 <;> cases n2 <;> simp_all <;> omega
  rw [if_neg (by omega), if_pos this]
theorem cmpRV_eq {f1 f2 M1 M2 : Nat} {n1 n2 : Bool} {e1 e2 : Int} (hf1 : f1 ≤ 2) (hf2 : f2 ≤ 2) (h : endV f1 n1 = endV f2 n2) (h0 : endV f1 n1 ≠ 0) : cmpRV f1 n1 M1 e1 f2 n2 M2 e2 = 0 := by
  have h2 : f1 = 2 := by
    refine Classical.byContradiction fun hc => h0 ?_
    unfold endV; rw [if_neg hc]
  have h3 : f2 = 2 := by
    refine Classical.byContradiction fun hc => h0 ?_
    rw [h]; unfold endV; rw [if_neg hc]
  subst h2; subst h3
  have : n1 = n2 := by cases n1 <;> cases n2 <;> simp_all [endV]
  subst this
  unfold cmpRV cmpFV
  cases n1 <;> simp [ordV]
theorem end0 {f : Nat} {n : Bool} (hf : f ≤ 2) (h : endV f n = 0) : f ≤ 1 := by
  refine Classical.byContradiction fun hc => ?_
  have : f = 2 := by omega
  subst this
  cases n <;> simp [endV] at h
end Go.Proofs.YtgclooabjilniaaGreatDoor

/-
The thin package's SetInt64, SetUint64; spec.Whole. No condition.
-/
namespace Go.Proofs.YtgclooabjilniaaGreatDoor
open Go.RowKit

theorem rQ0 (p m : Nat) (neg : Bool) : rk p 0 = 0 ∧ rQ p m neg 0 0 = 0 ∧ rA p m neg 0 0 = 0 := rQ_fits neg (by rw [bl_zero]; exact Nat.zero_le _)
theorem sbA_bd (p m : Nat) (neg : Bool) (M : Nat) : -1 ≤ sbA p m neg M ∧ sbA p m neg M ≤ 1 := by
  unfold sbA rA; repeat' split
  all_goals omega
theorem sbA_eq (p m : Nat) (neg : Bool) (M : Nat) : sbA p m neg M = rA p m neg 0 M := by
  unfold sbA; split
  · rename_i h; subst h; exact (rQ0 _ _ _).2.2.symm
  · rfl
theorem fO_le (M : Nat) : fO M ≤ 2 := by unfold fO; split <;> omega
theorem told_fO {w : World} {z : Value} {p m M : Nat} {n : Bool} {e : Int} (hz : RealV w z p m (fO M) n (rQ p m n 0 M) (e + (rk p M : Nat))) (hp : 0 < p) : Told w z p m n (rQ p m n 0 M) (e + (rk p M : Nat)) := by
  by_cases h : M = 0
  · subst h
    rw [(rQ0 p m n).2.1]
    exact hz.told0
  · rw [show fO M = 1 by unfold fO; rw [if_neg h]] at hz
    exact hz.told (rQ_pos n 0 hp (Nat.pos_of_ne_zero h)) (deq.refl _ _)
theorem RealV.formW {w : World} {z : Value} {p m f M : Nat} {neg : Bool} {X : Int} (h : RealV w z p m f neg M X) : ∃ (v : Value) (E : Int), z = .agg #[.int .u64 p, .int .i64 m, .int .i64 f, .bool neg, v, .int .i64 E] ∧ IsS v := by
  obtain ⟨v, E, zs, B, h1, h2, -⟩ := h
  exact ⟨v, E, h1, h2.isS⟩
theorem rQ_rng (p m M : Nat) (neg : Bool) (h : bl M ≤ 1000000) : -900000000 ≤ 0 + ((rk p M : Nat) : Int) ∧ 0 + ((rk p M : Nat) : Int) + bl (rQ p m neg 0 M) ≤ 900000000 := by
  have h1 := rk_le p M
  have h2 := bl_rQ p m neg 0 M
  omega
theorem rw_one {w : World} {n : Nat} (hn : n < 18446744073709551616) : RW (w.alloc (.cells #[.int .u64 (n : Int)] 22)) (.slice (some ⟨w.heap.size, 0, none⟩) 1 1) [n] := by
  have h := row_chain11 (w := w) (a := #[.int .u64 (n : Int)]) (A := 22)
  have hc := (row_at (i := 0) h rfl).1
  refine ⟨⟨⟨fun _ => rfl, Nat.le_refl _⟩, rfl, fun i hi => ?_⟩, fun d hd => ?_⟩
  · rw [ints_length] at hi
    obtain rfl : i = 0 := by simp at hi; omega
    exact hc
  · rw [List.mem_singleton.1 hd]; exact hn
set_option maxRecDepth 100000 in
set_option maxHeartbeats 1600000 in
theorem whole_any (x : Int) (w : World) (hx1 : -9223372036854775808 ≤ x) (hx2 : x ≤ 9223372036854775807) :
    Calls Tryz.prog 16 #[.int .i64 x] w fun e' w' => ∃ r, e' = .returned r ∧ DyV w' r (decide (x < 0)) x.natAbs 0 ∧ Below w.heap.size w w' := by
  have hab := (Below.refl w.heap.size w).alloc (Nat.le_refl _) (.cells #[.bool false, .slice none 0 0, .int .i64 0] 28)
  obtain ⟨X, hX⟩ : ∃ X, X = w.alloc (.cells #[.bool false, .slice none 0 0, .int .i64 0] 28) := ⟨_, rfl⟩
  have hr2 : X.heap[w.heap.size]? = some (.cells #[.bool false, .slice none 0 0, .int .i64 0] 28 (0, 0)) := by
    rw [hX]; exact row_chain11
  rw [← hX] at hab
  have HR2 := Lib.hid hr2
  have HB := Lib.hid hab
  have hXs := hab.size
  obtain ⟨n, hn⟩ : ∃ n, n = x.natAbs := ⟨_, rfl⟩
  rw [← hn]
  have hnb : n < 18446744073709551616 := by omega
  have HO := Lib.hid (show Calls Tryz.prog 45 #[.slice (some ⟨X.heap.size, 0, none⟩) 1 1] (X.alloc (.cells #[.int .u64 (n : Int)] 22)) fun e' w' => ∃ r, e' = .returned r ∧ NatV w' r n ∧ Below X.heap.size X w' from by
    refine (spOf (.slice (some ⟨X.heap.size, 0, none⟩) 1 1) [n] _ (rw_one hnb) (by simp)).mono ?_
    rintro _ w' ⟨r, rfl, h1, h2⟩
    rw [wv_one] at h1
    exact ⟨r, rfl, h1, bthen (fbone _) h2⟩)
  clear hr2 hab
  go_enter Tryz.func16, Tryz.ntmps16
  go_upto_region 1 with fail
  rw [← hX]
  clear hX
  rcases Int.lt_or_le x 0 with hs | hs
  · have t : decide (x < 0) = true := decide_eq_true hs
    have hw : IntKind.u64.wrap (-IntKind.u64.wrap x) = (n : Int) := by rw [IntKind.wrap_u64, IntKind.wrap_u64]; omega
    clear hs hn
    go_wp2_with fail
    try rw [hw]
    refine HO.out.mono ?_
    rintro _ w3 ⟨d, rfl, hd, hb3⟩
    have hSd := hd.isS
    have hvr := keep_row hb3 HR2.out
    obtain ⟨hv0, hv1, hv2, hf0, hf1, hf2⟩ := row3 hvr
    go_wp2_with fail
    obtain ⟨hx0, hx1, hx2, -, -, -⟩ := row3 (row3_set (x := .bool true) (y := d) (z := .int .i64 0) hvr)
    have hn := natv_dyad (x := .bool true) (y := d) (z := .int .i64 0) IsS.nil hd hvr
    have hbY := bset (i := 2) (u := .int .i64 0) (bset (i := 1) (u := d) (bset (i := 0) (u := .bool true) (HB.out.trans (hb3.mono hXs)) (Nat.le_refl _)) (Nat.le_refl _)) (Nat.le_refl _)
    refine bodyPost_ret (v := .agg #[.bool true, d, .int .i64 0]) ?_ rfl ⟨_, rfl, ⟨_, (by rw [t]), hn⟩, hbY⟩
    simp [results, Tryz.results16, go_sem, hx0, hx1, hx2]
  · have t : decide (x < 0) = false := decide_eq_false (by omega)
    have hw : x = (n : Int) := by omega
    clear hs hn
    go_wp2_with fail
    try rw [hw]
    refine HO.out.mono ?_
    rintro _ w3 ⟨d, rfl, hd, hb3⟩
    have hSd := hd.isS
    have hvr := keep_row hb3 HR2.out
    obtain ⟨hv0, hv1, hv2, hf0, hf1, hf2⟩ := row3 hvr
    go_wp2_with fail
    obtain ⟨hx0, hx1, hx2, -, -, -⟩ := row3 (row3_set (x := .bool false) (y := d) (z := .int .i64 0) hvr)
    have hn := natv_dyad (x := .bool false) (y := d) (z := .int .i64 0) IsS.nil hd hvr
    have hbY := bset (i := 2) (u := .int .i64 0) (bset (i := 1) (u := d) (bset (i := 0) (u := .bool false) (HB.out.trans (hb3.mono hXs)) (Nat.le_refl _)) (Nat.le_refl _)) (Nat.le_refl _)
    refine bodyPost_ret (v := .agg #[.bool false, d, .int .i64 0]) ?_ rfl ⟨_, rfl, ⟨_, (by rw [t]), hn⟩, hbY⟩
    simp [results, Tryz.results16, go_sem, hx0, hx1, hx2]
end Go.Proofs.YtgclooabjilniaaGreatDoor

/-
The reference's Int64. No condition.
-/
namespace Go.Proofs.YtgclooabjilniaaGreatDoor
open Go.RowKit

/-! ### Plain numbers -/
theorem trn_low {M : Nat} {E e : Int} (h : e ≤ E) (h0 : e ≤ 0) : trn M E = lo M E e / 2 ^ (-e).toNat := by
  have hd : deq M E (lo M E e) e := ⟨(E - e).toNat, 0, by simp [lo], by omega⟩
  rw [trn_deq hd]
  unfold trn
  rw [show e.toNat = 0 by omega, Nat.pow_zero, Nat.mul_one]
theorem exT_low {M : Nat} {E e : Int} (h : e ≤ E) : exT M E = decide (lo M E e % 2 ^ (-e).toNat = 0) := by
  rcases Nat.eq_zero_or_pos M with h0 | h0
  · subst h0
    unfold exT lo
    rw [Nat.zero_mul, Nat.zero_mod, Nat.zero_mod]
  · have hd : deq M E (lo M E e) e := ⟨(E - e).toNat, 0, by simp [lo], by omega⟩
    rw [exT_deq h0 hd]
    rfl
theorem cmpI_mul {i j k : Int} (hk : 0 < k) : cmpI (i * k) (j * k) = cmpI i j := by
  rcases Int.lt_trichotomy i j with h | h | h
  · rw [cmpI_lt h, cmpI_lt (Int.mul_lt_mul_of_pos_right h hk)]
  · subst h; unfold cmpI; rw [if_neg (by omega), if_neg (by omega), if_neg (by omega), if_neg (by omega)]
  · rw [cmpI_gt h, cmpI_gt (Int.mul_lt_mul_of_pos_right h hk)]
theorem sI_mulI (n : Bool) (x y : Nat) : sI n (x * y) = sI n x * (y : Int) := by cases n <;> simp [sI, Int.neg_mul]
/-- An order at a lower exponent. -/
theorem cmp_low {n1 n2 : Bool} {x y : Nat} {e1 e2 e : Int} (h : e ≤ min e1 e2) :
    cmpI (sI n1 (x * 2 ^ (e1 - min e1 e2).toNat)) (sI n2 (y * 2 ^ (e2 - min e1 e2).toNat)) = cmpI (sI n1 (lo x e1 e)) (sI n2 (lo y e2 e)) := by
  have k1 : x * 2 ^ (e1 - min e1 e2).toNat * 2 ^ (min e1 e2 - e).toNat = lo x e1 e := lo_lo (M := x) (E := e1) (by omega) h
  have k2 : y * 2 ^ (e2 - min e1 e2).toNat * 2 ^ (min e1 e2 - e).toNat = lo y e2 e := lo_lo (M := y) (E := e2) (by omega) h
  rw [← k1, ← k2, sI_mulI n1 _ (2 ^ (min e1 e2 - e).toNat), sI_mulI n2 _ (2 ^ (min e1 e2 - e).toNat), cmpI_mul]
  have := Nat.two_pow_pos (min e1 e2 - e).toNat
  omega
/-- Below the least number of 64 bits. -/
theorem i64_less {n : Bool} {M : Nat} {E : Int} (h : cmpI (sI n (M * 2 ^ (E - min E 63).toNat)) (sI true (1 * 2 ^ (63 - min E 63).toNat)) < 0) : i64V n M E = -9223372036854775808 ∧ i64A n M E = 1 := by
  rw [cmp_low (e := min E 0) (by omega)] at h
  have h1 : sI n (lo M E (min E 0)) < sI true (lo 1 63 (min E 0)) := by
    refine Int.lt_of_not_ge fun hc => ?_
    rcases Int.lt_or_eq_of_le hc with h2 | h2
    · rw [cmpI_gt h2] at h; omega
    · rw [← h2] at h; unfold cmpI at h; rw [if_neg (by omega), if_neg (by omega)] at h; omega
  have h2 : lo 1 63 (min E 0) = 9223372036854775808 * 2 ^ (-(min E 0)).toNat := by
    unfold lo
    rw [show (63 - min E 0).toNat = 63 + (-(min E 0)).toNat by omega, Nat.pow_add, Nat.one_mul]
  rw [h2] at h1
  have hn : n = true := by
    cases n
    · simp only [sI, Bool.false_eq_true, if_false, if_true] at h1; omega
    · rfl
  subst hn
  simp only [sI, if_true] at h1
  obtain ⟨D, hD⟩ : ∃ D, D = 2 ^ (-(min E 0)).toNat := ⟨_, rfl⟩
  have hD0 : 0 < D := by rw [hD]; exact Nat.two_pow_pos _
  have ht := trn_low (M := M) (show min E 0 ≤ E by omega) (by omega)
  have he := exT_low (M := M) (show min E 0 ≤ E by omega)
  rw [← hD] at h1 ht he
  have h3 : 9223372036854775808 * D < lo M E (min E 0) := by omega
  have h4 : 9223372036854775808 ≤ trn M E := by rw [ht, Nat.le_div_iff_mul_le hD0]; omega
  unfold i64V i64A
  refine ⟨by rw [if_neg (by omega)]; rfl, ?_⟩
  rw [if_neg]
  · rfl
  · rintro ⟨k1, k2⟩
    have k3 : trn M E = 9223372036854775808 := by rcases k2 with k2 | k2 <;> omega
    rw [he] at k1
    have k4 := of_decide_eq_true k1
    have k5 := Nat.div_add_mod (lo M E (min E 0)) D
    rw [← ht, k3, k4, Nat.mul_comm] at k5
    omega
/-- Above the greatest number of 64 bits. -/
theorem i64_more {n : Bool} {M : Nat} {E : Int} (h : 0 < cmpI (sI n (M * 2 ^ (E - min E 0).toNat)) (sI false (9223372036854775807 * 2 ^ (0 - min E 0).toNat))) : i64V n M E = 9223372036854775807 ∧ i64A n M E = -1 := by
  rw [cmp_low (e := min E 0) (by omega)] at h
  have h1 : sI false (lo 9223372036854775807 0 (min E 0)) < sI n (lo M E (min E 0)) := by
    refine Int.lt_of_not_ge fun hc => ?_
    rcases Int.lt_or_eq_of_le hc with h2 | h2
    · rw [cmpI_lt h2] at h; omega
    · rw [← h2] at h; unfold cmpI at h; rw [if_neg (by omega), if_neg (by omega)] at h; omega
  have h2 : lo 9223372036854775807 0 (min E 0) = 9223372036854775807 * 2 ^ (-(min E 0)).toNat := by
    unfold lo
    rw [show (0 - min E 0).toNat = (-(min E 0)).toNat by omega]
  rw [h2] at h1
  have hn : n = false := by
    cases n
    · rfl
    · simp only [sI, Bool.false_eq_true, if_false, if_true] at h1; omega
  subst hn
  simp only [sI, Bool.false_eq_true, if_false] at h1
  obtain ⟨D, hD⟩ : ∃ D, D = 2 ^ (-(min E 0)).toNat := ⟨_, rfl⟩
  have hD0 : 0 < D := by rw [hD]; exact Nat.two_pow_pos _
  have ht := trn_low (M := M) (show min E 0 ≤ E by omega) (by omega)
  have he := exT_low (M := M) (show min E 0 ≤ E by omega)
  rw [← hD] at h1 ht he
  have h3 : 9223372036854775807 * D < lo M E (min E 0) := by omega
  have h4 : 9223372036854775807 ≤ trn M E := by rw [ht, Nat.le_div_iff_mul_le hD0]; omega
  unfold i64V i64A
  refine ⟨?_, ?_⟩
  · split
    · rw [show trn M E = 9223372036854775807 by omega]; rfl
    · rfl
  · rw [if_neg]
    · rfl
    · rintro ⟨k1, k2⟩
      have k3 : trn M E = 9223372036854775807 := by
        rcases k2 with k2 | k2
        · omega
        · exact absurd k2.1 (by decide)
      rw [he] at k1
      have k4 := of_decide_eq_true k1
      have k5 := Nat.div_add_mod (lo M E (min E 0)) D
      rw [← ht, k3, k4, Nat.mul_comm] at k5
      omega
theorem wrap_neg {t : Nat} (h : t ≤ 9223372036854775808) : (if t < 9223372036854775808 then -(t : Int) else -9223372036854775808) = IntKind.i64.wrap (-IntKind.i64.wrap (t : Int)) := by
  rw [IntKind.wrap_i64, IntKind.wrap_i64]
  by_cases h1 : t < 9223372036854775808
  · rw [if_pos h1]; omega
  · rw [if_neg h1]; omega
theorem wrap_pos {t : Nat} (h : t < 9223372036854775808) : (t : Int) = IntKind.i64.wrap (t : Int) := by
  rw [IntKind.wrap_i64]; omega
/-- Between the two. -/
theorem i64_mid {n : Bool} {M : Nat} {E : Int} (h1 : 0 ≤ cmpI (sI n (M * 2 ^ (E - min E 63).toNat)) (sI true (1 * 2 ^ (63 - min E 63).toNat))) (h2 : cmpI (sI n (M * 2 ^ (E - min E 0).toNat)) (sI false (9223372036854775807 * 2 ^ (0 - min E 0).toNat)) ≤ 0) :
    i64A n M E = accI n (exT M E) ∧ trn M E ≤ 9223372036854775808 ∧ (n = false → trn M E < 9223372036854775808) ∧ i64V n M E = (if n then IntKind.i64.wrap (-IntKind.i64.wrap (trn M E : Int)) else IntKind.i64.wrap (trn M E : Int)) := by
  rw [cmp_low (e := min E 0) (by omega)] at h1 h2
  have g1 : sI true (lo 1 63 (min E 0)) ≤ sI n (lo M E (min E 0)) := by
    refine Int.not_lt.1 fun hc => ?_
    rw [cmpI_lt hc] at h1; omega
  have g2 : sI n (lo M E (min E 0)) ≤ sI false (lo 9223372036854775807 0 (min E 0)) := by
    refine Int.not_lt.1 fun hc => ?_
    rw [cmpI_gt hc] at h2; omega
  have e1 : lo 1 63 (min E 0) = 9223372036854775808 * 2 ^ (-(min E 0)).toNat := by
    unfold lo
    rw [show (63 - min E 0).toNat = 63 + (-(min E 0)).toNat by omega, Nat.pow_add, Nat.one_mul]
  have e2 : lo 9223372036854775807 0 (min E 0) = 9223372036854775807 * 2 ^ (-(min E 0)).toNat := by
    unfold lo
    rw [show (0 - min E 0).toNat = (-(min E 0)).toNat by omega]
  rw [e1] at g1
  rw [e2] at g2
  obtain ⟨D, hD⟩ : ∃ D, D = 2 ^ (-(min E 0)).toNat := ⟨_, rfl⟩
  have hD0 : 0 < D := by rw [hD]; exact Nat.two_pow_pos _
  have ht := trn_low (M := M) (show min E 0 ≤ E by omega) (by omega)
  have he := exT_low (M := M) (show min E 0 ≤ E by omega)
  rw [← hD] at g1 g2 ht he
  have k5 := Nat.div_add_mod (lo M E (min E 0)) D
  rw [← ht, Nat.mul_comm] at k5
  have hml := Nat.mod_lt (lo M E (min E 0)) hD0
  have hacc : ∀ b : Bool, accI n b = if b then 0 else if n then 1 else -1 := fun b => rfl
  cases n
  · simp only [sI, Bool.false_eq_true, if_false] at g2
    have k6 : trn M E < 9223372036854775808 := by
      have : lo M E (min E 0) < 9223372036854775808 * D := by omega
      rw [ht]; exact Nat.div_lt_of_lt_mul (by rw [Nat.mul_comm]; exact this)
    refine ⟨?_, by omega, fun _ => k6, ?_⟩
    · rw [hacc]; unfold i64A
      by_cases hx : exT M E = true
      · rw [if_pos ⟨hx, .inl k6⟩, if_pos hx]
      · rw [if_neg (fun hc => hx hc.1), if_neg hx]
    · unfold i64V
      rw [if_pos k6]
      simp only [sI, Bool.false_eq_true, if_false]
      exact wrap_pos k6
  · simp only [sI, if_true] at g1
    have k6 : lo M E (min E 0) ≤ 9223372036854775808 * D := by omega
    have k7 : trn M E ≤ 9223372036854775808 := by
      rw [ht]; exact Nat.le_of_lt_succ (Nat.div_lt_of_lt_mul (by rw [Nat.mul_comm, Nat.succ_mul]; omega))
    have k8 : trn M E = 9223372036854775808 → exT M E = true := fun hc => by
      rw [he]
      rw [hc] at k5
      exact decide_eq_true (by omega)
    refine ⟨?_, k7, fun hc => absurd hc (by decide), ?_⟩
    · rw [hacc]; unfold i64A
      by_cases hx : exT M E = true
      · rw [if_pos hx, if_pos ⟨hx, by
          rcases Nat.lt_or_ge (trn M E) 9223372036854775808 with h | h
          · exact .inl h
          · exact .inr ⟨rfl, by omega⟩⟩]
      · rw [if_neg (fun hc => hx hc.1), if_neg hx]
    · unfold i64V
      simp only [sI, if_true]
      exact wrap_neg k7
/-! ### Walks -/
theorem cut2 (n : Bool) (a : Value) (M : Nat) (E : Int) (w : World) (ha : NatV w a M) (hM : nl M ≤ 10000000) (hE : -100000000 ≤ E ∧ E ≤ 100000000) :
    Calls Tryz.prog 43 #[.bool n, a, .int .i64 (-E), .int .i64 2] w fun e w' => ∃ r, e = .returned (.tuple #[r, .int .i64 (accI n (exT M E))]) ∧ NPost (trn M E) w r w' := by
  rcases Int.le_total 0 E with h | h
  · obtain ⟨k, rfl⟩ := Int.eq_ofNat_of_zero_le h
    have e1 : trn M (k : Int) = M * 2 ^ k := by unfold trn; rw [show (-(k : Int)).toNat = 0 by omega, Nat.pow_zero, Nat.div_one]; simp
    have e2 : exT M (k : Int) = true := by unfold exT; rw [show (-(k : Int)).toNat = 0 by omega, Nat.pow_zero, Nat.mod_one]; rfl
    rw [e1, e2]
    exact spCut_neg n a M k (-(k : Int)) 2 w ha hM rfl (by omega)
  · obtain ⟨k, hk⟩ := Int.eq_ofNat_of_zero_le (show 0 ≤ -E by omega)
    have h1 := spCut_any n a M k 2 w ha hM (by omega) (by decide)
    have e1 : trn M E = ctQ 2 n M k := by
      unfold trn ctQ ctU awy
      rw [hk, show E.toNat = 0 by omega, Nat.pow_zero, Nat.mul_one]
      simp
    have e2 : accI n (exT M E) = ctA 2 n M k := by
      unfold exT ctA ctU awy accI
      rw [hk]
      simp only [Int.toNat_natCast, decide_eq_true_eq]
      by_cases h2 : M % 2 ^ k = 0
      · rw [if_pos h2, if_pos (lef_zero.2 ⟨h2, rfl⟩)]
      · rw [if_neg h2, if_neg (fun hc => h2 (lef_zero.1 hc).1)]
        cases n <;> simp
    rw [e1, e2, hk]
    exact h1
theorem ksD2 {W X : World} {k l : Nat} {a b c a' b' c' : Value} {T T' : TypeId} (hr : W.heap[k]? = some (.cells #[a, b, c] T (0, 0))) (hq : W.heap[l]? = some (.cells #[a', b', c'] T' (0, 0))) (h : Below W.heap.size W X) :
    Below W.heap.size W X ∧ (X.cell? ⟨k, 0, none⟩ = some a ∧ X.cell? ⟨k, 1, none⟩ = some b ∧ X.cell? ⟨k, 2, none⟩ = some c) ∧ X.cell? ⟨l, 0, none⟩ = some a' ∧ X.cell? ⟨l, 1, none⟩ = some b' ∧ X.cell? ⟨l, 2, none⟩ = some c' := by
  obtain ⟨x0, x1, x2, -, -, -⟩ := row3 (keep_row h hr)
  obtain ⟨y0, y1, y2, -, -, -⟩ := row3 (keep_row h hq)
  exact ⟨h, ⟨x0, x1, x2⟩, y0, y1, y2⟩
theorem nl_wrap (T k : Nat) : IntKind.i64.wrap (IntKind.i64.wrap (IntKind.i64.wrap ((T / 65536 ^ (k + 1) : Nat) : Int) * 65536) + ((dig T k : Nat) : Int)) = IntKind.i64.wrap ((T / 65536 ^ k : Nat) : Int) := by
  have h1 := div_pow_step T k
  rw [h1]
  rw [IntKind.wrap_i64, IntKind.wrap_i64, IntKind.wrap_i64, IntKind.wrap_i64]
  omega
theorem wrap_bd (x : Int) : -9223372036854775808 ≤ IntKind.i64.wrap x ∧ IntKind.i64.wrap x ≤ 9223372036854775807 := by rw [IntKind.wrap_i64]; omega
theorem bl_one' : bl 1 ≤ 60000 := Nat.le_trans (bl_le (k := 1) (by decide)) (by decide)
theorem bl_top' : bl 9223372036854775807 ≤ 60000 := Nat.le_trans (bl_le (k := 64) (by decide)) (by decide)
theorem i64_top {ng : Bool} {T : Nat} (h : sI ng T = smV false 1 63 true 1 0) : ng = false ∧ T = 9223372036854775807 := by
  have h1 : smV false 1 63 true 1 0 = 9223372036854775807 := by decide
  rw [h1] at h
  cases ng
  · simp only [sI, Bool.false_eq_true, if_false] at h; exact ⟨rfl, by omega⟩
  · simp only [sI, if_true] at h; omega
set_option maxRecDepth 100000 in
set_option maxHeartbeats 3200000 in
theorem spInt64 (n : Bool) (a : Value) (E : Int) (M : Nat) (w : World) (ha : NatV w a M) (hM : bl M ≤ 60000) (hE : -100000 ≤ E ∧ E ≤ 100000) :
    Calls Tryz.prog 17 #[.agg #[.bool n, a, .int .i64 E]] w fun e' w' => e' = .returned (.tuple #[.int .i64 (i64V n M E), .int .i64 (i64A n M E)]) ∧ Below w.heap.size w w' := by
  have hS := ha.isS
  have hab := (Below.refl w.heap.size w).alloc (Nat.le_refl _) (.cells #[.bool n, a, .int .i64 E] 28)
  obtain ⟨X, hX⟩ : ∃ X, X = w.alloc (.cells #[.bool n, a, .int .i64 E] 28) := ⟨_, rfl⟩
  have hr1 : X.heap[w.heap.size]? = some (.cells #[.bool n, a, .int .i64 E] 28 (0, 0)) := by rw [hX]; exact row_chain11
  rw [← hX] at hab
  have HA := Lib.hid (ha.below hab)
  have HR := Lib.hid hr1
  have HB := Lib.hid hab
  have hXs := hab.size
  have HM := Lib.hid hM
  obtain ⟨hE1, hE2⟩ := hE
  obtain ⟨V, hV⟩ : ∃ V, V = i64V n M E := ⟨_, rfl⟩
  obtain ⟨A, hA⟩ : ∃ A, A = i64A n M E := ⟨_, rfl⟩
  have HV := Lib.hid hV
  have HAC := Lib.hid hA
  rw [← hV, ← hA]
  clear ha hab hr1 hM hV hA
  go_enter Tryz.func17, Tryz.ntmps17
  go_upto_region 1 with fail
  rw [← hX]
  clear hX
  go_wp2_with fail
  refine (spSmall 1 X (by decide)).mono ?_
  rintro _ w1 ⟨r, rfl, hr, hb1⟩
  have hSr := hr.isS
  obtain ⟨Y, hY⟩ : ∃ Y, Y = w1.alloc (.cells #[.bool true, r, .int .i64 63] 28) := ⟨_, rfl⟩
  have hbY : Below w1.heap.size w1 Y := by rw [hY]; exact fbone _
  have hr2 : Y.heap[w1.heap.size]? = some (.cells #[.bool true, r, .int .i64 63] 28 (0, 0)) := by rw [hY]; exact row_chain11
  have hbX := bthen hb1 hbY
  have hr1 := keep_row hbX HR.out
  have HR1 := Lib.hid hr1
  have HR2 := Lib.hid hr2
  have HAY := Lib.hid (HA.out.below hbX)
  have HRY := Lib.hid (hr.below hbY)
  have HBY := Lib.hid (HB.out.trans (hbX.mono hXs))
  have hYs := HBY.out.size
  obtain ⟨-, ⟨x0, x1, x2⟩, y0, y1, y2⟩ := ksD2 hr1 hr2 (Below.refl _ _)
  clear hr hb1 hbY hr1 hr2 hbX hXs
  go_upto_region 2 with fail
  rw [← hY]
  clear hY
  go_wp2_with fail
  refine (order_real 60000 100000 1 1 n true a r E 63 M 1 Y HAY.out HRY.out HM.out (by omega) (by omega) bl_one' (by decide) (by decide) (by decide) (by decide)).mono ?_
  rintro _ w2 ⟨rfl, hb2⟩
  obtain ⟨C, hC⟩ : ∃ C, C = cmpI (sI n (M * 2 ^ (E - min E 63).toNat)) (sI true (1 * 2 ^ (63 - min E 63).toNat)) := ⟨_, rfl⟩
  rw [← hC]
  have HC := Lib.hid hC
  clear hC
  by_cases hc : C < 0
  · have t1 : decide (C < 0) = true := decide_eq_true hc
    have K := Lib.hid (i64_less (n := n) (M := M) (E := E) (by rw [← HC.out]; exact hc))
    have HB2 := Lib.hid (HBY.out.trans (hb2.mono hYs))
    clear hc hb2
    go_wp2
    go_ret2
    rw [HV.out, HAC.out, K.out.1, K.out.2]
    exact ⟨rfl, HB2.out⟩
  have t1 : decide (C < 0) = false := decide_eq_false hc
  have HC0 := Lib.hid hc
  clear hc
  have hr1 := keep_row hb2 HR1.out
  have hr2 := keep_row hb2 HR2.out
  have HR3 := Lib.hid hr1
  have HR4 := Lib.hid hr2
  have HA2 := Lib.hid (HAY.out.below hb2)
  have HR2' := Lib.hid (HRY.out.below hb2)
  have HB2 := Lib.hid (HBY.out.trans (hb2.mono hYs))
  have h2s := HB2.out.size
  have hcc := Below.refl w2.heap.size w2
  clear x0 x1 x2 y0 y1 y2 hr1 hr2 hb2 hYs
  obtain ⟨C2, hC2⟩ : ∃ C, C = cmpI (sI n (M * 2 ^ (E - min E 0).toNat)) (sI false (9223372036854775807 * 2 ^ (0 - min E 0).toNat)) := ⟨_, rfl⟩
  have HC2 := Lib.hid hC2
  clear hC2
  by_cases hc2 : 0 < C2
  · have t2 : decide (0 < C2) = true := decide_eq_true hc2
    have K := Lib.hid (i64_more (n := n) (M := M) (E := E) (by rw [← HC2.out]; exact hc2))
    clear hc2
    go_wp2_with fail
    first
      | (go_region_held3 (fun w' => Below w2.heap.size w2 w' ∧ (w'.cell? ⟨w.heap.size, 0, none⟩ = some (.bool n) ∧ w'.cell? ⟨w.heap.size, 1, none⟩ = some a ∧ w'.cell? ⟨w.heap.size, 2, none⟩ = some (.int .i64 E)) ∧ w'.cell? ⟨w1.heap.size, 0, none⟩ = some (.bool true) ∧ w'.cell? ⟨w1.heap.size, 1, none⟩ = some r ∧ w'.cell? ⟨w1.heap.size, 2, none⟩ = some (.int .i64 63))
          ((refine ksD2 HR3.out HR4.out ?_; with_reducible first | assumption | exact Below.drew hcc))
          (first
            | (go_at_call 29; refine (dOpp true r 63 _ hSr).mono ?_; rintro _ w3 ⟨rfl, hb3⟩; have hb3 := bthenL hb3 (by assumption); have HR3' := Lib.hid (HR2'.out.below hb3))
            | (go_at_call 16; refine (whole_any (-1) _ (by omega) (by omega)).mono ?_; rintro _ w4 ⟨_, rfl, ⟨o, rfl, ho⟩, hb4⟩; have hSo := ho.isS; have HO := Lib.hid ho; clear ho; have HR4' := Lib.hid (HR3'.out.below hb4); have hb4 := bthen hb3 hb4)
            | (go_at_call 26; refine (dSum_sm _ _ r o _ _ 1 _ _ HR4'.out HO.out (Nat.le_trans bl_one' (by decide)) (Nat.le_trans bl_one' (by decide)) (by decide) (by decide)).mono ?_; rintro _ w5 ⟨ng, c, T, rfl, hcn, hs, hb5⟩; have hTn : ng = false ∧ T = 9223372036854775807 := i64_top hs; obtain ⟨rfl, rfl⟩ := hTn; have hSc := hcn.isS; have HCN := Lib.hid hcn; clear hcn hs; have hb5 := bthen hb4 hb5; rw [show min (63 : Int) 0 = 0 from rfl])
            | (go_at_call 25; refine (order_real 60000 100000 1 1 n false a c E 0 M 9223372036854775807 _ (HA2.out.below hb5) HCN.out HM.out (by omega) (by omega) bl_top' (by decide) (by decide) (by decide) (by decide)).mono ?_; rintro _ w6 ⟨rfl, hb6⟩; rw [← HC2.out]; have hb6 := bthen hb5 hb6)))
      | fail
    all_goals
      have HB6 := Lib.hid (HB2.out.trans (hb6.mono h2s))
      go_wp2
      go_ret2
      rw [HV.out, HAC.out, K.out.1, K.out.2]
      exact ⟨rfl, HB6.out⟩
  have t2 : decide (0 < C2) = false := decide_eq_false hc2
  have K := Lib.hid (i64_mid (n := n) (M := M) (E := E) (by rw [← HC.out]; have := HC0.out; omega) (by rw [← HC2.out]; omega))
  clear hc2
  go_wp2_with fail
  first
    | (go_region_held3 (fun w' => Below w2.heap.size w2 w' ∧ (w'.cell? ⟨w.heap.size, 0, none⟩ = some (.bool n) ∧ w'.cell? ⟨w.heap.size, 1, none⟩ = some a ∧ w'.cell? ⟨w.heap.size, 2, none⟩ = some (.int .i64 E)) ∧ w'.cell? ⟨w1.heap.size, 0, none⟩ = some (.bool true) ∧ w'.cell? ⟨w1.heap.size, 1, none⟩ = some r ∧ w'.cell? ⟨w1.heap.size, 2, none⟩ = some (.int .i64 63))
        ((refine ksD2 HR3.out HR4.out ?_; with_reducible first | assumption | exact Below.drew hcc))
        (first
          | (go_at_call 29; refine (dOpp true r 63 _ hSr).mono ?_; rintro _ w3 ⟨rfl, hb3⟩; have hb3 := bthenL hb3 (by assumption); have HR3' := Lib.hid (HR2'.out.below hb3))
          | (go_at_call 16; refine (whole_any (-1) _ (by omega) (by omega)).mono ?_; rintro _ w4 ⟨_, rfl, ⟨o, rfl, ho⟩, hb4⟩; have hSo := ho.isS; have HO := Lib.hid ho; clear ho; have HR4' := Lib.hid (HR3'.out.below hb4); have hb4 := bthen hb3 hb4)
          | (go_at_call 26; refine (dSum_sm _ _ r o _ _ 1 _ _ HR4'.out HO.out (Nat.le_trans bl_one' (by decide)) (Nat.le_trans bl_one' (by decide)) (by decide) (by decide)).mono ?_; rintro _ w5 ⟨ng, c, T, rfl, hcn, hs, hb5⟩; have hTn : ng = false ∧ T = 9223372036854775807 := i64_top hs; obtain ⟨rfl, rfl⟩ := hTn; have hSc := hcn.isS; have HCN := Lib.hid hcn; clear hcn hs; have hb5 := bthen hb4 hb5; rw [show min (63 : Int) 0 = 0 from rfl])
          | (go_at_call 25; refine (order_real 60000 100000 1 1 n false a c E 0 M 9223372036854775807 _ (HA2.out.below hb5) HCN.out HM.out (by omega) (by omega) bl_top' (by decide) (by decide) (by decide) (by decide)).mono ?_; rintro _ w6 ⟨rfl, hb6⟩; rw [← HC2.out]; have hb6 := bthen hb5 hb6)))
    | fail
  all_goals
    have HB6 := Lib.hid (HB2.out.trans (hb6.mono h2s))
  all_goals
    have hr6 := keep_row hb6 HR3.out
    obtain ⟨x0, x1, x2, -, -, -⟩ := row3 hr6
    have HR6 := Lib.hid hr6
    have HA6 := Lib.hid (HA2.out.below hb6)
    have h6s := HB6.out.size
    clear hb6 hr6
    go_wp2_with fail
    refine (cut2 n a M E w6 HA6.out (nl_of_bl (by have := HM.out; omega)) (by omega)).mono ?_
    rintro _ w7 ⟨q, rfl, hq, hb7⟩
    have hSq := hq.isS
    have hLq := hq.len
    obtain ⟨T, hT⟩ : ∃ T, T = trn M E := ⟨_, rfl⟩
    rw [← hT] at hq hLq
    obtain ⟨sd, hsd⟩ : ∃ sd, sd = accI n (exT M E) := ⟨_, rfl⟩
    have hsdb : -1 ≤ sd ∧ sd ≤ 1 := by rw [hsd]; unfold accI; cases (exT M E) <;> cases n <;> decide
    rw [← hsd]
    obtain ⟨L, hL⟩ : ∃ L, L = nl T := ⟨_, rfl⟩
    rw [← hL] at hLq
    have HT := Lib.hid hT
    have HSD := Lib.hid hsd
    have HL := Lib.hid hL
    have HLB : L ≤ 10 := by
      rw [hL]
      refine Nat.le_trans (nl_le (L := 4) ?_) (by decide)
      have := K.out.2.1
      rw [hT]; omega
    have HQ := Lib.hid hq
    have HB7 := Lib.hid (HB6.out.trans (hb7.mono h6s))
    have h7s := HB7.out.size
    have HR7 := Lib.hid (keep_row hb7 HR6.out)
    clear hq hT hsd hL hb7 x0 x1 x2
    go_wp2
    go_loopw [7, 8] (fun nv iv wr => ∃ k : Nat, k ≤ L ∧ iv = .int .i64 ((k : Int) - 1) ∧ nv = .int .i64 (IntKind.i64.wrap ((T / 65536 ^ k : Nat) : Int)) ∧ Below w7.heap.size w7 wr) (fun _ iv _ => (intOf iv + 1).toNat)
    case atStart =>
      refine ⟨L, Nat.le_refl _, by go_num, ?_, Below.refl _ _⟩
      have e1 := lt_nl T
      rw [← HL.out] at e1
      rw [Nat.div_eq_of_lt e1]; rfl
    case round =>
      obtain ⟨k, hk, rfl, rfl, hbl⟩ := hrel
      by_cases hk0 : 0 < k
      · obtain ⟨j, rfl⟩ : ∃ j, k = j + 1 := ⟨k - 1, by omega⟩
        have ca := (HQ.out.below hbl).cell j (by rw [← HL.out]; omega)
        obtain ⟨p, hp⟩ : ∃ p, p = dig T j := ⟨_, rfl⟩
        have hw := nl_wrap T j
        have hpb : p < 65536 := by rw [hp]; exact dig_lt _ _
        rw [← hp] at ca hw
        have hub := wrap_bd ((T / 65536 ^ (j + 1) : Nat) : Int)
        obtain ⟨U, hU⟩ : ∃ U, U = IntKind.i64.wrap ((T / 65536 ^ (j + 1) : Nat) : Int) := ⟨_, rfl⟩
        rw [← hU] at hw hub ⊢
        have hub2 := wrap_bd (U * 65536)
        obtain ⟨U2, hU2⟩ : ∃ U2, U2 = IntKind.i64.wrap (U * 65536) := ⟨_, rfl⟩
        rw [← hU2] at hw hub2
        have hU2' := hU2.symm
        have hub3 := wrap_bd ((T / 65536 ^ j : Nat) : Int)
        obtain ⟨U3, hU3⟩ : ∃ U3, U3 = IntKind.i64.wrap ((T / 65536 ^ j : Nat) : Int) := ⟨_, rfl⟩
        rw [← hU3] at hw hub3
        have HU3 := Lib.hid hU3
        clear hp hU hU2 hU3
        rw [show ((j + 1 : Nat) : Int) - 1 = (j : Int) by omega]
        have t3 : decide ((0:Int) ≤ (j : Int)) = true := by rw [decide_eq_true_iff]; omega
        have hjL : j < L := by omega
        go_wp2
        exact ⟨⟨j, by omega, by go_num, by rw [HU3.out], hbl⟩, by simp [intOf]⟩
      · have hk1 : k = 0 := by omega
        subst hk1
        have hn0 : IntKind.i64.wrap ((T / 65536 ^ 0 : Nat) : Int) = IntKind.i64.wrap (T : Int) := by rw [Nat.pow_zero, Nat.div_one]
        rw [hn0]
        have hub := wrap_bd (T : Int)
        have hVw := K.out.2.2.2
        rw [← HT.out, ← HV.out] at hVw
        obtain ⟨U, hU⟩ : ∃ U, U = IntKind.i64.wrap (T : Int) := ⟨_, rfl⟩
        rw [← hU] at hub hVw ⊢
        clear hn0 hU
        obtain ⟨x0, x1, x2, -, -, -⟩ := row3 (keep_row hbl HR7.out)
        have HAD : Hid (A = sd) := Lib.hid (by rw [HAC.out, K.out.1, HSD.out])
        have HB8 := Lib.hid (HB7.out.trans (hbl.mono h7s))
        clear hbl
        cases n
        · have HVU : Hid (V = U) := Lib.hid hVw
          clear hVw
          go_wp2
          go_ret2
          rw [HVU.out, HAD.out]
          exact ⟨rfl, HB8.out⟩
        · have hVU : IntKind.i64.wrap (-U) = V := hVw.symm
          clear hVw
          go_wp2
          go_ret2
          rw [HAD.out]
          exact ⟨rfl, HB8.out⟩
end Go.Proofs.YtgclooabjilniaaGreatDoor

/-
The statements on Neg and Abs. No condition.
-/
namespace Go.Proofs.YtgclooabjilniaaGreatDoor
open Go.RowKit

theorem told_dyW {w : World} {z : Value} {p m f M : Nat} {n x : Bool} {e : Int} (hf : f = 0 ∨ f = 1) (hz : RealV w z p m f x (rQ p m n 0 M) (e + (rk p M : Nat))) (hM : f = 1 → 0 < M) (hp : 0 < p) (y : Bool) (hy : f = 1 → x = y) :
    Told w z p m y (rQ p m (dyN f n) 0 (dyM f M)) (dyE f e + (rk p (dyM f M) : Nat)) := by
  rcases hf with rfl | rfl
  · obtain ⟨h1, h2, -⟩ := rQ_zero p m (dyN 0 n)
    rw [show dyM 0 M = 0 from rfl, h2]
    exact hz.told0
  · rw [show dyN 1 n = n from rfl, show dyM 1 M = M from rfl, show dyE 1 e = e from rfl, ← hy rfl]
    exact hz.told (rQ_pos n 0 hp (hM rfl)) (deq.refl _ _)
theorem ks15 {W X : World} {i j k : Nat} {a b c d e f a' b' c' d' e' f' x y z : Value} {T T' U : TypeId} (hr : W.heap[i]? = some (.cells #[a, b, c, d, e, f] T (0, 0))) (hq : W.heap[j]? = some (.cells #[a', b', c', d', e', f'] T' (0, 0))) (hs : W.heap[k]? = some (.cells #[x, y, z] U (0, 0))) (h : Below W.heap.size W X) :
    Below W.heap.size W X ∧ (X.cell? ⟨i, 0, none⟩ = some a ∧ X.cell? ⟨i, 1, none⟩ = some b ∧ X.cell? ⟨i, 2, none⟩ = some c ∧ X.cell? ⟨i, 3, none⟩ = some d ∧ X.cell? ⟨i, 4, none⟩ = some e ∧ X.cell? ⟨i, 5, none⟩ = some f) ∧
    (X.cell? ⟨j, 0, none⟩ = some a' ∧ X.cell? ⟨j, 1, none⟩ = some b' ∧ X.cell? ⟨j, 2, none⟩ = some c' ∧ X.cell? ⟨j, 3, none⟩ = some d' ∧ X.cell? ⟨j, 4, none⟩ = some e' ∧ X.cell? ⟨j, 5, none⟩ = some f') ∧
    (X.cell? ⟨k, 0, none⟩ = some x ∧ X.cell? ⟨k, 1, none⟩ = some y ∧ X.cell? ⟨k, 2, none⟩ = some z) :=
  ⟨h, (ks12 hr h).2, (ks12 hq h).2, (row_at (keep_row h hs) rfl).1, (row_at (keep_row h hs) rfl).1, (row_at (keep_row h hs) rfl).1⟩
end Go.Proofs.YtgclooabjilniaaGreatDoor

/-
The statements on SetMantExp and MantExp. No condition.
-/
namespace Go.Proofs.YtgclooabjilniaaGreatDoor
open Go.RowKit

theorem dy_one {f M : Nat} {n : Bool} {e : Int} (h : f = 1) : dyN f n = n ∧ dyM f M = M ∧ dyE f e = e := by subst h; exact ⟨rfl, rfl, rfl⟩
theorem RealV.told1 {w : World} {z : Value} {p m f M x : Nat} {neg : Bool} {X e : Int} (hf : f = 1) (h : RealV w z p m f neg M X) (hM : 0 < M) (hq : deq M X x e) : Told w z p m neg x e := by subst hf; exact h.told hM hq
theorem RealOk.one {P E p m f : Nat} {ws : List Nat} {e : Int} (h : RealOk P E p m f ws e) (hf : f = 1) : 0 < wv ws ∧ bl (wv ws) ≤ p ∧ bl (wv ws) ≤ P ∧ ws.length ≤ 1000000 ∧ -(E : Int) ≤ e ∧ e ≤ E := by
  subst hf
  obtain ⟨-, h2, -, h | h | h⟩ := h
  · exact absurd h (by decide)
  · exact absurd h (by decide)
  · exact ⟨h.2.1, h.2.2.1, Nat.le_trans h.2.2.1 h2, h.2.2.2⟩
theorem RealV.ok {w : World} {z : Value} {p m f M P E : Nat} {neg : Bool} {X : Int} (h : RealV w z p m f neg M X) (hp0 : 0 < p) (hp : p ≤ P) (hm : m ≤ 5) (hf : f ≤ 2) (h1 : f = 1 → 0 < M ∧ bl (od M) ≤ p ∧ bl M ≤ 60000000 ∧ -(E : Int) ≤ X ∧ X + bl M ≤ E) :
    ∃ (v : Value) (Ez : Int) (zs : List Nat), z = .agg #[.int .u64 p, .int .i64 m, .int .i64 f, .bool neg, v, .int .i64 Ez] ∧ RW w v zs ∧ RealOk P E p m f zs Ez ∧ (f = 1 → wv zs = od M ∧ zs = wds (od M) ∧ Ez = X + (tz M : Nat) ∧ deq (wv zs) Ez M X) ∧ (f ≠ 1 → zs = [] ∧ Ez = 0) := by
  obtain ⟨v, Ez, zs, B, e1, e2, e3, e4, e5⟩ := h
  refine ⟨v, Ez, zs, e1, e2.rw' e3, ⟨hp0, hp, hm, ?_⟩, fun hf1 => ?_, e4⟩
  · by_cases hf1 : f = 1
    · obtain ⟨k1, k2, k3, k4, k5⟩ := h1 hf1
      obtain ⟨l1, l2⟩ := e5 hf1
      have l3 := tz_le k1
      refine .inr (.inr ⟨hf1, ?_, ?_, ?_, ?_, ?_⟩)
      · rw [l1, wv_wds]; exact od_pos k1
      · rw [l1, wv_wds]; exact k2
      · rw [l1, wds_length, nw_bl (od_pos k1)]
        have : bl (od M) ≤ bl M := by have := bl_od k1; omega
        omega
      · omega
      · omega
    · omega
  · obtain ⟨k1, k2, k3, k4, k5⟩ := h1 hf1
    obtain ⟨l1, l2⟩ := e5 hf1
    have l3 : wv zs = od M := by rw [l1, wv_wds]
    refine ⟨l3, l1, l2, ?_⟩
    rw [l3, l2]; exact (od_deq k1 X).symm
end Go.Proofs.YtgclooabjilniaaGreatDoor

/-
The thin package's Int64; the statement on it. No condition.
-/
namespace Go.Proofs.YtgclooabjilniaaGreatDoor
open Go.RowKit

theorem dyN_zero {f M : Nat} {n : Bool} {E : Int} : i64V n (dyM f M) (dyE f E) = i64V (dyN f n) (dyM f M) (dyE f E) ∧ i64A n (dyM f M) (dyE f E) = i64A (dyN f n) (dyM f M) (dyE f E) := by
  by_cases h : f = 1
  · rw [show dyN f n = n from if_pos h]; exact ⟨rfl, rfl⟩
  · rw [show dyM f M = 0 from if_neg h]
    obtain ⟨a1, a2⟩ := i64_zero n (dyE f E)
    obtain ⟨b1, b2⟩ := i64_zero (dyN f n) (dyE f E)
    rw [a1, a2, b1, b2]; exact ⟨rfl, rfl⟩
theorem i64_bd (n : Bool) (M : Nat) (E : Int) : (-9223372036854775808 ≤ i64V n M E ∧ i64V n M E ≤ 9223372036854775807) ∧ -1 ≤ i64A n M E ∧ i64A n M E ≤ 1 := by
  unfold i64V i64A
  constructor
  · split
    · cases n <;> simp only [sI, Bool.false_eq_true, if_false, if_true] <;> omega
    · cases n <;> simp
  · repeat' split
    all_goals omega
end Go.Proofs.YtgclooabjilniaaGreatDoor

/-
The statement on rounding a number of 64 bits. No condition.
-/
namespace Go.Proofs.YtgclooabjilniaaGreatDoor
open Go.RowKit

theorem sI_decide (x : Int) : sI (decide (x < 0)) x.natAbs = x := by
  by_cases h : x < 0
  · rw [decide_eq_true h]; simp only [sI, if_true]; omega
  · rw [decide_eq_false h]; simp only [sI, Bool.false_eq_true, if_false]; omega
theorem i64_fO {S q k : Nat} {s sg : Bool} {X : Int} (h : S ≠ 0 → sg = s) : i64V sg (dyM (fO S) (rQ q k s 0 S)) (dyE (fO S) X) = i64V s (rQ q k s 0 S) X ∧ i64A sg (dyM (fO S) (rQ q k s 0 S)) (dyE (fO S) X) = i64A s (rQ q k s 0 S) X := by
  by_cases h0 : S = 0
  · subst h0
    rw [(rQ_zero q k s).2.1, show dyM (fO 0) 0 = 0 from rfl, show dyE (fO 0) X = 0 from rfl]
    rw [(i64_zero sg 0).1, (i64_zero sg 0).2, (i64_zero s X).1, (i64_zero s X).2]
    exact ⟨rfl, rfl⟩
  · rw [show fO S = 1 from if_neg h0, h h0]
    exact ⟨rfl, rfl⟩
theorem i64_sum {ng : Bool} {M p m : Nat} {V X : Int} (h : sI ng M = V) :
    rA p m ng 0 M = rA p m (vN V) 0 V.natAbs ∧ rk p M = rk p V.natAbs ∧ i64V ng (rQ p m ng 0 M) X = i64V (vN V) (rQ p m (vN V) 0 V.natAbs) X ∧ i64A ng (rQ p m ng 0 M) X = i64A (vN V) (rQ p m (vN V) 0 V.natAbs) X := by
  subst h
  rw [natAbs_sI]
  rcases Nat.eq_zero_or_pos M with h0 | h0
  · subst h0
    obtain ⟨a1, a2, a3⟩ := rQ_zero p m ng
    obtain ⟨b1, b2, b3⟩ := rQ_zero p m (vN (sI ng 0))
    rw [a2, a3, b2, b3, (i64_zero _ X).1, (i64_zero _ X).2, (i64_zero _ X).1, (i64_zero _ X).2]
    exact ⟨rfl, rfl, rfl, rfl⟩
  · rw [vN_sI h0]
    exact ⟨rfl, rfl, rfl, rfl⟩
end Go.Proofs.YtgclooabjilniaaGreatDoor
