/-
Texts of this proof, joined: GcH GcI SfA NwB QuA QuB SrA SrB NvD SrC SrD FdA RgA. No condition.
-/
import Derived.Test.YtoddjkpckpekcaaGreatDoorK02
import Derived.Test.YtoddjkpckpekcaaGreatDoorK03
import Derived.Test.YtoddjkpckpekcaaGreatDoorK06
import Derived.Test.YtoddjkpckpekcaaGreatDoorK07
import Derived.Test.YtoddjkpckpekcaaGreatDoorK09
import Derived.Test.YtoddjkpckpekcaaGreatDoorK13
import Derived.Test.YtoddjkpckpekcaaGreatDoorK14
import Derived.Test.YtoddjkpckpekcaaGreatDoorK16
import Derived.Test.YtoddjkpckpekcaaGreatDoorK22
import Derived.Test.YtoddjkpckpekcaaGreatDoorK23
import Derived.LaidEqlPtr
namespace Go.Proofs.YtoddjkpckpekcaaGreatDoor
open Go.RowKit

theorem Smaller.gcd {A B A' B' : Nat} (h : Smaller A B A' B') : Nat.gcd A' B' = Nat.gcd A B :=
  Nat.dvd_antisymm (Nat.dvd_gcd ((h.dvd _).2 ⟨Nat.gcd_dvd_left _ _, Nat.gcd_dvd_right _ _⟩).1 ((h.dvd _).2 ⟨Nat.gcd_dvd_left _ _, Nat.gcd_dvd_right _ _⟩).2)
    (Nat.dvd_gcd ((h.dvd _).1 ⟨Nat.gcd_dvd_left _ _, Nat.gcd_dvd_right _ _⟩).1 ((h.dvd _).1 ⟨Nat.gcd_dvd_left _ _, Nat.gcd_dvd_right _ _⟩).2)
theorem Bx.drewN {w : World} {B c : Nat} {m : Bool} {v : Value} {zs : List Value} (h : Bx w B c m v zs) (k : Nat) : Bx (w.drewN k) B c m v zs := ⟨h.le, h.row, h.own.drewN k⟩
theorem Quad.drewN {w : World} {B a b q r : Nat} {ma mb mq mr : Bool} {va vb vq vr : Value} {za zb zq zr : List Value} (h : Quad w B a b q r ma mb mq mr va vb vq vr za zb zq zr) (k : Nat) : Quad (w.drewN k) B a b q r ma mb mq mr va vb vq vr za zb zq zr :=
  { h with ba := h.ba.drewN k, bb := h.bb.drewN k, bq := h.bq.drewN k, br := h.br.drewN k }
theorem Bx.alloc {w : World} {B c : Nat} {m : Bool} {v : Value} {zs : List Value} (h : Bx w B c m v zs) (o : Obj) : Bx (w.alloc o) B c m v zs := ⟨h.le, (heap_alloc_lt h.row).1, h.own.alloc o⟩
theorem Bx.new (w : World) {B : Nat} (h : B ≤ w.heap.size) : Bx (w.alloc (.cells #[.bool false, .slice none 0 0] 87)) B w.heap.size false (.slice none 0 0) [] := ⟨h, heap_alloc_new w _, Own.nil _ _ _⟩
structure Lg (w wr : World) (B a b q r X Y G : Nat) : Prop where
  ex : ∃ (mq mr : Bool) (va vb vq vr : Value) (zq zr : List Value), Quad wr B a b q r false false mq mr va vb vq vr (cellsW (wds X)) (cellsW (wds Y)) zq zr
  le : Y ≤ X
  pos : 0 < X
  big : nw X < 40
  gcd : Nat.gcd X Y = G
  bl : Below B w wr
theorem Lg.drewN {w wr : World} {B a b q r X Y G : Nat} (h : Lg w wr B a b q r X Y G) (k : Nat) : Lg w (wr.drewN k) B a b q r X Y G := by
  obtain ⟨mq, mr, va, vb, vq, vr, zq, zr, Q⟩ := h.ex
  exact ⟨⟨mq, mr, va, vb, vq, vr, zq, zr, Q.drewN k⟩, h.le, h.pos, h.big, h.gcd, undrewN' h.bl⟩
theorem Lg.cells {w wr : World} {B a b q r X Y G : Nat} (h : Lg w wr B a b q r X Y G) : ∃ va vb, wr.cell? ⟨a, 1, none⟩ = some va ∧ wr.cell? ⟨b, 1, none⟩ = some vb ∧ IsS va ∧ IsS vb ∧ sLen va = nw X ∧ sLen vb = nw Y := by
  obtain ⟨mq, mr, va, vb, vq, vr, zq, zr, Q⟩ := h.ex
  exact ⟨va, vb, (row_at (i := 1) Q.ba.row rfl).1, (row_at (i := 1) Q.bb.row rfl).1, Q.ba.own.isS, Q.bb.own.isS, by rw [Q.ba.own.len, cellsW_length, wds_length], by rw [Q.bb.own.len, cellsW_length, wds_length]⟩
theorem Lg.done {w wr : World} {B a b q r X G : Nat} (h : Lg w wr B a b q r X 0 G) : ∃ v, Bx wr B a false v (cellsW (wds G)) ∧ Below B w wr := by
  have hG := h.gcd
  rw [Nat.gcd_zero_right] at hG
  obtain ⟨mq, mr, va, vb, vq, vr, zq, zr, Q⟩ := h.ex
  rw [← hG]
  exact ⟨va, Q.ba, h.bl⟩
theorem wds_single {X : Nat} (h : nw X = 1) : wds X = [X] := by
  have h1 : (wds X).length = 1 := by rw [wds_length, h]
  have h2 := wv_wds X
  match hh : wds X, h1 with
  | [d], _ => rw [hh] at h2; simp [wv] at h2; rw [h2]
theorem nw_single {X : Nat} (h0 : 0 < X) (h : X < 18446744073709551616) : nw X = 1 := by
  have h1 := nw_pos h0
  have h2 : nw X ≤ 1 := nw_le (by rw [Nat.pow_one]; exact h)
  omega
theorem Lg.words {w wr : World} {B a b q r X Y G : Nat} (h : Lg w wr B a b q r X Y G) (hX : nw X = 1) (hY : 0 < Y) :
    ∃ va vb, (wr.cell? ⟨a, 1, none⟩ = some va ∧ wr.cell? ⟨b, 1, none⟩ = some vb ∧ IsS va ∧ IsS vb ∧ sLen va = 1 ∧ sLen vb = 1 ∧ wr.cell? ⟨sBlk va, sOff va, none⟩ = some (.int .u64 (X : Int)) ∧ wr.cell? ⟨sBlk vb, sOff vb, none⟩ = some (.int .u64 (Y : Int)) ∧ wr.frozen? ⟨sBlk va, sOff va, none⟩ = false) ∧
      ∀ (k g : Nat), 0 < g → g < 18446744073709551616 → Bx ((wr.drewN k).setCell ⟨sBlk va, sOff va, none⟩ (.int .u64 (g : Int))) B a false va (cellsW (wds g)) ∧ Below B w ((wr.drewN k).setCell ⟨sBlk va, sOff va, none⟩ (.int .u64 (g : Int))) := by
  have hY1 : nw Y = 1 := by have h1 := nw_mono h.le; have h2 := nw_pos hY; omega
  obtain ⟨mq, mr, va, vb, vq, vr, zq, zr, Q⟩ := h.ex
  have ba := Q.ba
  have bb := Q.bb
  rw [wds_single hX] at ba
  rw [wds_single hY1] at bb
  have la : sLen va = 1 := ba.own.len
  have lb : sLen vb = 1 := bb.own.len
  have hcap : 0 < sCap va := by have := ba.own.isS.le; omega
  refine ⟨va, vb, ⟨(row_at (i := 1) ba.row rfl).1, (row_at (i := 1) bb.row rfl).1, ba.own.isS, bb.own.isS, la, lb, ?_, ?_, ?_⟩, fun k g h0 hg => ?_⟩
  · have h1 : RW wr va [X] := wds_single hX ▸ Q.ba.ro.rw
    exact h1.at 0 _ rfl
  · have h1 : RW wr vb [Y] := wds_single hY1 ▸ Q.bb.ro.rw
    exact h1.at 0 _ rfl
  · obtain ⟨cur, hc⟩ := ba.own.rowOf hcap
    exact frozen_of_row wr _ _ _ _ hc
  · have hbk : B ≤ sBlk va := (ba.own.lt hcap).1
    have h1 := (ba.own.drewN k).set (i := 0) (by simp [cellsW]) (.int .u64 (g : Int))
    rw [wds_single (nw_single h0 hg)]
    refine ⟨⟨ba.le, ?_, h1⟩, bset (undrewN' h.bl) hbk⟩
    exact (heap_setCell_other _ _ _ _ (by
      have := ba.own.neRow ba.row (by decide) hcap
      simpa using fun he => this he)).trans ba.row
theorem eqlW_same (w : World) (a : Addr) : (binOp .eql 163 (.pointer (some a)) (.pointer (some a))).run Tryz.prog w = .ok (.bool true) w := by
  obtain ⟨j, hj, hz⟩ := info_size sizeWord
  exact run_eql_ptr_same w a Tryz.underlying163 hj
set_option maxRecDepth 100000 in
theorem same_self (v : Value) (L : Nat) (w : World) (hS : IsS v) (hL : sLen v = L) (h0 : 0 < L) (_hm : L ≤ 1000000000) :
    Calls Tryz.prog 92 #[v, v] w fun e w' => e = .returned (.bool true) ∧ ∃ m, w' = w.drewN m := by
  have t1 : decide (0 < L) = true := decide_eq_true h0
  have hq := fun (m i : Nat) => eqlW_same (w.drewN m) ⟨sBlk v, i, none⟩
  go_enter Tryz.func92, Tryz.ntmps92
  go_wp2_with fail
  go_quiet (fail)
  go_wp2
  go_ret
  exact ⟨rfl, _, rfl⟩
set_option maxRecDepth 100000 in
theorem same_none (v : Value) (w : World) (hS : IsS v) (hL : sLen v = 0) :
    Calls Tryz.prog 92 #[v, v] w fun e w' => e = .returned (.bool false) ∧ ∃ m, w' = w.drewN m := by
  go_enter Tryz.func92, Tryz.ntmps92
  go_wp2_with fail
  go_quiet (fail)
  go_wp2
  go_ret
  exact ⟨rfl, _, rfl⟩
set_option maxRecDepth 100000 in
set_option maxHeartbeats 800000 in
theorem lsh_same (v : Value) (X s B : Nat) (w : World) (hv : Own w B 98 v (cellsW (wds X))) (hz : X = 0 → v = .slice none 0 0) (hl : nw X ≤ 10000000) (hs : s ≤ 1000000000) (hB : B ≤ w.heap.size) :
    Calls Tryz.prog 107 #[v, v, .int .u64 s] w fun e w' => ∃ r, e = .returned r ∧ NatR v r (X * 2 ^ s) B w w' := by
  rcases Nat.eq_zero_or_pos X with h0 | h0
  · have hv0 := hz h0
    subst hv0
    have hS : IsS (.slice none 0 0) := IsS.nil
    have Q0 : ∀ k, NatR (.slice none 0 0) (.slice none 0 0) (X * 2 ^ s) B w (w.drewN k) := fun k => by
      rw [h0, Nat.zero_mul]
      exact ⟨Own.nil _ _ _, undrewN' (Below.refl _ _), fun _ _ _ => rfl, fun hc => absurd hc (by decide)⟩
    have HQ0 := Lib.hid Q0
    rcases Nat.eq_zero_or_pos s with s0 | s0
    · have t0 : ((s : Int) == 0) = true := by rw [beq_iff_eq]; omega
      have HSET : Hid (∀ k, Calls Tryz.prog 63 #[.slice none 0 0, .slice none 0 0] (w.drewN k) fun e w' => ∃ r, e = .returned r ∧ NatR (.slice none 0 0) r (X * 2 ^ s) B w w') := Lib.hid (fun k => by
        have hx : RW (w.drewN k) (.slice none 0 0) (wds 0) := ⟨⟨IsS.nil, rfl, fun i hi => absurd hi (by rw [ints_length, wds_zero]; simp)⟩, fun d hd => absurd hd (by simp [wds_zero])⟩
        refine (set_at _ _ [] (wds 0) B (w.drewN k) (Own.nil _ _ _) hx (by decide) hB).mono ?_
        rintro _ w' ⟨r, rfl, h1, h2, h3, h4⟩
        rw [h0, Nat.zero_mul]
        exact ⟨r, rfl, h1, undrewN h2, fun k hk hn => h3 k hk hn, h4⟩)
      have HSN := Lib.hid (same_none (.slice none 0 0) w hS rfl)
      have HAN := Lib.hid (fun k => alias_nil (.slice none 0 0) (w.drewN k) hS)
      clear hv hz h0 s0 Q0
      go_enter Tryz.func107, Tryz.ntmps107
      go_wp2_with fail
      refine HSN.out.mono ?_
      rintro _ _ ⟨rfl, k, rfl⟩
      go_wp2_with fail
      refine (HAN.out _).mono ?_
      rintro _ _ ⟨rfl, j, hj⟩
      rw [show (w.drewN k).drewN j = w.drewN (k + j) from World.drewN_drewN ..] at hj
      subst hj
      go_wp2_with fail
      refine (HSET.out _).mono ?_
      rintro _ w2 ⟨r, rfl, h⟩
      have Q := Lib.hid h
      have hSq := h.own.isS
      clear h
      go_wp2
      go_ret
      exact ⟨_, rfl, Q.out⟩
    · have t0 : ((s : Int) == 0) = false := by rw [beq_eq_false_iff_ne]; omega
      clear hv hz h0 s0 Q0
      go_enter Tryz.func107, Tryz.ntmps107
      go_wp2
      go_ret
      exact ⟨_, rfl, HQ0.out 0⟩
  · rcases Nat.eq_zero_or_pos s with s0 | s0
    · have t0 : ((s : Int) == 0) = true := by rw [beq_iff_eq]; omega
      have hS := hv.isS
      have hL : sLen v = nw X := by rw [hv.len, cellsW_length, wds_length]
      have HSN := Lib.hid (same_self v (nw X) w hS hL (nw_pos h0) (by omega))
      have HQ : Hid (∀ k, NatR v v (X * 2 ^ s) B w (w.drewN k)) := Lib.hid (fun k => by
        rw [s0, Nat.pow_zero, Nat.mul_one]
        exact ⟨hv.drewN k, undrewN' (Below.refl _ _), fun _ _ _ => rfl, fun hc => .inl ⟨hc, rfl⟩⟩)
      clear hv hz h0 s0 hL
      go_enter Tryz.func107, Tryz.ntmps107
      go_wp2_with fail
      refine HSN.out.mono ?_
      rintro _ _ ⟨rfl, k, rfl⟩
      go_wp2
      go_ret
      exact ⟨_, rfl, HQ.out k⟩
    · exact lsh_gen v v _ X s B w hv (hv.rw' (wds_all X)) (fun _ _ => rfl) h0 hl s0 hs hB
theorem nw_b {n k : Nat} (h : bl n ≤ 64 * k) : nw n ≤ k :=
  nw_le (Nat.lt_of_lt_of_le (lt_bl _) (by rw [show (18446744073709551616 : Nat) = 2 ^ 64 from rfl, ← Nat.pow_mul]; exact Nat.pow_le_pow_right (by decide) h))
end Go.Proofs.YtoddjkpckpekcaaGreatDoor
namespace Go.Proofs.YtoddjkpckpekcaaGreatDoor

theorem lef_more {R D s s' T low : Nat} (hD : D % 2 = 0) (hs : s ≤ 1) (hlow : low < T) (h0 : s = 0 → low = 0 ∧ s' = 0) (h1 : s = 1 → ¬ (low = 0 ∧ s' = 0)) : lef (R * T + low) (D * T) s' = lef R D s := by
  have hT : 0 < T := by omega
  rcases Nat.eq_zero_or_pos s with e | e
  · obtain ⟨a, b⟩ := h0 e
    subst a; subst b; subst e
    exact lef_scale R D 0 hT
  · have e1 : s = 1 := by omega
    have h2 := h1 e1
    subst e1
    obtain ⟨E, rfl⟩ : ∃ E, D = 2 * E := ⟨D / 2, by omega⟩
    unfold lef
    rw [if_neg (fun h => h2 ?_), if_neg (show ¬ (R = 0 ∧ 1 = 0) by omega)]
    · by_cases hr : R < E
      · have h3 : R * T + T ≤ E * T := by rw [← Nat.succ_mul]; exact Nat.mul_le_mul_right _ hr
        have h4 : 2 * E * T = 2 * (E * T) := Nat.mul_assoc _ _ _
        rw [if_pos (show 2 * (R * T + low) < 2 * E * T by omega), if_pos (show 2 * R < 2 * E by omega)]
      · have h3 : E * T ≤ R * T := Nat.mul_le_mul_right _ (by omega)
        have h4 : 2 * E * T = 2 * (E * T) := Nat.mul_assoc _ _ _
        rw [if_neg (show ¬ 2 * (R * T + low) < 2 * E * T by omega), if_neg (show ¬ 2 * R < 2 * E by omega)]
        by_cases h5 : 2 * (R * T + low) = 2 * E * T ∧ s' = 0
        · exact absurd ⟨by omega, h5.2⟩ h2
        · rw [if_neg h5, if_neg (show ¬ (2 * R = 2 * E ∧ 1 = 0) by omega)]
    · obtain ⟨a, b⟩ := h
      exact ⟨by omega, b⟩
theorem bl_low {Q t low : Nat} (hQ : 0 < Q) (hlow : low < 2 ^ t) : bl (Q * 2 ^ t + low) = bl Q + t := by
  have h1 := bl_ge hQ
  have h2 := lt_bl Q
  have h3 := bl_pos hQ
  have e : bl Q + t = (bl Q - 1 + t) + 1 := by omega
  rw [e]
  refine bl_of ?_ ?_
  · rw [Nat.pow_add]
    exact Nat.le_trans (Nat.mul_le_mul_right _ h1) (Nat.le_add_right _ _)
  · have h4 : Q * 2 ^ t + 2 ^ t ≤ 2 ^ bl Q * 2 ^ t := by rw [← Nat.succ_mul]; exact Nat.mul_le_mul_right _ h2
    rw [show bl Q - 1 + t + 1 = bl Q + t by omega, Nat.pow_add]
    omega
theorem round_more {p m Q s s' t low : Nat} (neg : Bool) (hlow : low < 2 ^ t) (hp : p < bl Q) (hs : s ≤ 1) (h0 : s = 0 → low = 0 ∧ s' = 0) (h1 : s = 1 → ¬ (low = 0 ∧ s' = 0)) :
    rk p (Q * 2 ^ t + low) = rk p Q + t ∧ rQ p m neg s' (Q * 2 ^ t + low) = rQ p m neg s Q ∧ rA p m neg s' (Q * 2 ^ t + low) = rA p m neg s Q := by
  have hQ : 0 < Q := by
    rcases Nat.eq_zero_or_pos Q with h | h
    · subst h; rw [bl_zero] at hp; omega
    · exact h
  have hb := bl_low hQ hlow
  have hk : rk p (Q * 2 ^ t + low) = rk p Q + t := by unfold rk; rw [hb]; omega
  obtain ⟨r, hr⟩ : ∃ r, rk p Q = r + 1 := ⟨rk p Q - 1, by unfold rk; omega⟩
  have hT : 0 < 2 ^ t := Nat.two_pow_pos t
  have hdiv : (Q * 2 ^ t + low) / 2 ^ (rk p Q + t) = Q / 2 ^ rk p Q := by
    rw [Nat.add_comm (rk p Q), Nat.pow_add, ← Nat.div_div_eq_div_mul]
    congr 1
    rw [Nat.add_comm, Nat.add_mul_div_right _ _ hT, Nat.div_eq_of_lt hlow, Nat.zero_add]
  have hmod : (Q * 2 ^ t + low) % 2 ^ (rk p Q + t) = Q % 2 ^ rk p Q * 2 ^ t + low := by
    have e1 := Nat.div_add_mod (Q * 2 ^ t + low) (2 ^ (rk p Q + t))
    rw [hdiv] at e1
    have e2 := Nat.div_add_mod Q (2 ^ rk p Q)
    have e3 : Q * 2 ^ t = 2 ^ (rk p Q + t) * (Q / 2 ^ rk p Q) + Q % 2 ^ rk p Q * 2 ^ t := by
      conv => lhs; rw [← e2]
      rw [Nat.add_mul, Nat.pow_add]
      congr 1
      rw [Nat.mul_assoc, Nat.mul_comm (Q / 2 ^ rk p Q), Nat.mul_assoc]
    omega
  have hL : rL p s' (Q * 2 ^ t + low) = rL p s Q := by
    unfold rL
    rw [hk, hmod, Nat.pow_add]
    refine lef_more ?_ hs hlow h0 h1
    rw [hr, Nat.pow_succ, Nat.mul_mod_left]
  have hU : rU p m neg s' (Q * 2 ^ t + low) = rU p m neg s Q := by
    unfold rU
    rw [hL, hk, hdiv]
  refine ⟨hk, ?_, ?_⟩
  · unfold rQ
    rw [hU, hk, hdiv]
  · unfold rA
    rw [hL, hU]
def qN (X Y i : Nat) : Nat := X * 2 ^ i / Y
def qS (X Y i : Nat) : Nat := if X * 2 ^ i % Y = 0 then 0 else 1
theorem qS_le (X Y i : Nat) : qS X Y i ≤ 1 := by unfold qS; split <;> decide
theorem qN_more {X Y i j : Nat} (hY : 0 < Y) (hij : i ≤ j) : ∃ low, low < 2 ^ (j - i) ∧ qN X Y j = qN X Y i * 2 ^ (j - i) + low ∧ (qS X Y i = 0 → low = 0 ∧ qS X Y j = 0) ∧ (qS X Y i = 1 → ¬ (low = 0 ∧ qS X Y j = 0)) := by
  obtain ⟨T, hT⟩ : ∃ T, T = 2 ^ (j - i) := ⟨_, rfl⟩
  have hT0 : 0 < T := by rw [hT]; exact Nat.two_pow_pos _
  have e0 : X * 2 ^ j = X * 2 ^ i * T := by rw [hT, Nat.mul_assoc, ← Nat.pow_add]; congr 2; omega
  obtain ⟨A, hA⟩ : ∃ A, A = X * 2 ^ i := ⟨_, rfl⟩
  rw [← hA] at e0
  have eA := Nat.div_add_mod A Y
  have hr := Nat.mod_lt A hY
  obtain ⟨q, hq⟩ : ∃ q, q = A / Y := ⟨_, rfl⟩
  obtain ⟨r, hr'⟩ : ∃ r, r = A % Y := ⟨_, rfl⟩
  rw [← hq, ← hr'] at eA
  rw [← hr'] at hr
  have e1 : A * T = Y * (q * T) + r * T := by rw [← eA, Nat.add_mul, Nat.mul_assoc]
  have hd : A * T / Y = q * T + r * T / Y := by rw [e1, Nat.mul_add_div hY]
  have hm : A * T % Y = r * T % Y := by rw [e1, Nat.mul_add_mod]
  refine ⟨r * T / Y, ?_, ?_, ?_, ?_⟩
  · rw [← hT]; rw [Nat.div_lt_iff_lt_mul hY, Nat.mul_comm T]; exact Nat.mul_lt_mul_of_pos_right hr hT0
  · unfold qN; rw [e0, ← hA, hd, ← hq, ← hT]
  · intro h
    unfold qS at h ⊢
    rw [← hA, ← hr'] at h
    rw [e0, hm]
    have h0 : r = 0 := by
      by_cases h2 : r = 0
      · exact h2
      · rw [if_neg h2] at h; cases h
    subst h0
    simp
  · intro h hc
    unfold qS at h hc
    rw [← hA, ← hr'] at h
    rw [e0, hm] at hc
    have h0 : r ≠ 0 := fun h2 => by rw [if_pos h2] at h; cases h
    have h3 : r * T % Y = 0 := by
      by_cases h2 : r * T % Y = 0
      · exact h2
      · rw [if_neg h2] at hc; exact absurd hc.2 (by decide)
    have h4 := Nat.div_add_mod (r * T) Y
    rw [hc.1, h3] at h4
    have h5 : 0 < r * T := Nat.mul_pos (Nat.pos_of_ne_zero h0) hT0
    omega
theorem quo_round {p m X Y i j : Nat} (neg : Bool) (hY : 0 < Y) (hi : p < bl (qN X Y i)) (hj : p < bl (qN X Y j)) :
    ((rk p (qN X Y i) : Nat) : Int) - i = ((rk p (qN X Y j) : Nat) : Int) - j ∧ rQ p m neg (qS X Y i) (qN X Y i) = rQ p m neg (qS X Y j) (qN X Y j) ∧ rA p m neg (qS X Y i) (qN X Y i) = rA p m neg (qS X Y j) (qN X Y j) := by
  have main : ∀ {i j : Nat}, i ≤ j → p < bl (qN X Y i) → ((rk p (qN X Y i) : Nat) : Int) - i = ((rk p (qN X Y j) : Nat) : Int) - j ∧ rQ p m neg (qS X Y i) (qN X Y i) = rQ p m neg (qS X Y j) (qN X Y j) ∧ rA p m neg (qS X Y i) (qN X Y i) = rA p m neg (qS X Y j) (qN X Y j) := fun {i j} hij h => by
    obtain ⟨low, h1, h2, h3, h4⟩ := qN_more (X := X) hY hij
    have := round_more (m := m) neg h1 h (qS_le X Y i) h3 h4
    rw [← h2] at this
    obtain ⟨k1, k2, k3⟩ := this
    exact ⟨by omega, k2.symm, k3.symm⟩
  by_cases hij : i ≤ j
  · exact main hij hi
  · obtain ⟨a, b, c⟩ := main (i := j) (j := i) (by omega) hj
    exact ⟨a.symm, b.symm, c.symm⟩
theorem round_mark {p m Q s : Nat} (neg : Bool) (hp : p < bl Q) (hs : s ≤ 1) : rk p (2 * Q + s) = rk p Q + 1 ∧ rQ p m neg 0 (2 * Q + s) = rQ p m neg s Q ∧ rA p m neg 0 (2 * Q + s) = rA p m neg s Q := by
  have := round_more (p := p) (m := m) (Q := Q) (s := s) (s' := 0) (t := 1) (low := s) neg (by omega) hp hs (fun h => ⟨h, rfl⟩) (fun h => by omega)
  rw [Nat.pow_one, Nat.mul_comm Q 2] at this
  exact this
end Go.Proofs.YtoddjkpckpekcaaGreatDoor
namespace Go.Proofs.YtoddjkpckpekcaaGreatDoor

theorem qN_scale {X Y i c : Nat} (hc : 0 < c) : qN (X * c) (Y * c) i = qN X Y i ∧ qS (X * c) (Y * c) i = qS X Y i := by
  have e : X * c * 2 ^ i = X * 2 ^ i * c := by rw [Nat.mul_assoc, Nat.mul_comm c, ← Nat.mul_assoc]
  unfold qN qS
  rw [e, Nat.mul_div_mul_right _ _ hc, Nat.mul_mod_mul_right]
  refine ⟨rfl, ?_⟩
  have h : (X * 2 ^ i % Y * c = 0) ↔ (X * 2 ^ i % Y = 0) := by
    rw [Nat.mul_eq_zero]
    exact ⟨fun h => h.resolve_right (by omega), .inl⟩
  by_cases h0 : X * 2 ^ i % Y = 0
  · rw [if_pos h0, if_pos (h.2 h0)]
  · rw [if_neg h0, if_neg (fun hh => h0 (h.1 hh))]
theorem qN_shift (X Y i c : Nat) : qN (X * 2 ^ c) Y i = qN X Y (c + i) ∧ qS (X * 2 ^ c) Y i = qS X Y (c + i) := by
  have e : X * 2 ^ c * 2 ^ i = X * 2 ^ (c + i) := by rw [Nat.mul_assoc, ← Nat.pow_add]
  unfold qN qS
  rw [e]
  exact ⟨rfl, rfl⟩
theorem quo_both {p m M1 M2 u v t s k : Nat} (neg : Bool) (h2 : 0 < M2) (hp : p < bl (qN (M1 * 2 ^ u) (M2 * 2 ^ v) t)) (hk : p < bl (qN M1 M2 k)) :
    rQ p m neg (qS (M1 * 2 ^ u) (M2 * 2 ^ v) t) (qN (M1 * 2 ^ u) (M2 * 2 ^ v) t * 2 ^ s) = rQ p m neg 0 (2 * qN M1 M2 k + qS M1 M2 k) ∧
    rA p m neg (qS (M1 * 2 ^ u) (M2 * 2 ^ v) t) (qN (M1 * 2 ^ u) (M2 * 2 ^ v) t * 2 ^ s) = rA p m neg 0 (2 * qN M1 M2 k + qS M1 M2 k) ∧
    ((rk p (qN (M1 * 2 ^ u) (M2 * 2 ^ v) t * 2 ^ s) : Nat) : Int) - s - t - u + v = ((rk p (2 * qN M1 M2 k + qS M1 M2 k) : Nat) : Int) - 1 - k := by
  have a1 : qN (M1 * 2 ^ u) (M2 * 2 ^ v) t = qN M1 (M2 * 2 ^ v) (u + t) ∧ qS (M1 * 2 ^ u) (M2 * 2 ^ v) t = qS M1 (M2 * 2 ^ v) (u + t) := qN_shift M1 (M2 * 2 ^ v) t u
  have a2 : qN M1 M2 k = qN M1 (M2 * 2 ^ v) (v + k) ∧ qS M1 M2 k = qS M1 (M2 * 2 ^ v) (v + k) := by
    have h := qN_scale (X := M1) (Y := M2) (i := k) (Nat.two_pow_pos v)
    have h' := qN_shift M1 (M2 * 2 ^ v) k v
    exact ⟨h.1.symm.trans h'.1, h.2.symm.trans h'.2⟩
  rw [a1.1] at hp
  rw [a2.1] at hk
  rw [a1.1, a1.2, a2.1, a2.2]
  have hY : 0 < M2 * 2 ^ v := Nat.mul_pos h2 (Nat.two_pow_pos v)
  obtain ⟨b1, b2, b3⟩ := quo_round (m := m) neg hY hp hk
  obtain ⟨c1, c2, c3⟩ := round_mark (m := m) neg hk (qS_le M1 (M2 * 2 ^ v) (v + k))
  have hl := qS_le M1 (M2 * 2 ^ v) (u + t)
  obtain ⟨d1, d2, d3⟩ := round_more (m := m) (s := qS M1 (M2 * 2 ^ v) (u + t)) (s' := qS M1 (M2 * 2 ^ v) (u + t)) (t := s) (low := 0) neg (Nat.two_pow_pos s) hp hl (fun h => ⟨rfl, h⟩) (fun h hc => by have := hc.2; omega)
  rw [Nat.add_zero] at d1 d2 d3
  refine ⟨by rw [d2, c2, b2], by rw [d3, c3, b3], ?_⟩
  rw [d1, c1]
  omega
end Go.Proofs.YtoddjkpckpekcaaGreatDoor
namespace Go.Proofs.YtoddjkpckpekcaaGreatDoor
open Go.RowKit

theorem bit_dig (x i : Nat) : x / 2 ^ i % 2 = dig x (i / 16) / 2 ^ (i % 16) % 2 := by
  unfold dig
  have h1 : (2 : Nat) ^ i = 65536 ^ (i / 16) * 2 ^ (i % 16) := two_split i
  rw [h1, ← Nat.div_div_eq_div_mul]
  have h2 : (65536 : Nat) = 2 ^ (i % 16) * (2 * 2 ^ (15 - i % 16)) := by
    rw [← Nat.pow_succ', ← Nat.pow_add, show i % 16 + (15 - i % 16).succ = 16 by omega]
  generalize x / 65536 ^ (i / 16) = X
  conv => rhs; rw [h2, Nat.mod_mul_right_div_self, Nat.mod_mul_right_mod]
theorem and1_i64 (x : Nat) (_h : x < 65536) : bits .and .i64 (x : Int) 1 = ((x % 2 : Nat) : Int) := by
  have h1 : (BitVec.ofInt 64 1).toNat = 2 ^ 1 - 1 := by decide
  have key : (BitVec.ofInt 64 (x : Int) &&& BitVec.ofInt 64 1).toNat = ((x : Int) % ((2 ^ 64 : Nat) : Int)).toNat % 2 ^ 1 := by
    rw [BitVec.toNat_and, BitVec.toNat_ofInt, h1, Nat.and_two_pow_sub_one_eq_mod]
  show IntKind.i64.wrap ((BitVec.ofInt 64 (x : Int) &&& BitVec.ofInt 64 1).toNat : Nat) = _
  rw [key, IntKind.wrap_i64]
  omega
set_option maxRecDepth 100000 in
set_option maxHeartbeats 800000 in
theorem spHas (a : Value) (x i : Nat) (w : World) (ha : NatV w a x) (_hx : nl x ≤ 1000000000) (hi : i ≤ 16000000000) :
    Calls Tryz.prog 104 #[a, .int .i64 i] w fun e w' => e = .returned (.bool (decide (x / 2 ^ i % 2 = 1))) ∧ w = w' := by
  have hSa := ha.isS
  have hLa := ha.len
  obtain ⟨L, hL⟩ : ∃ L, L = nl x := ⟨_, rfl⟩
  rw [← hL] at hLa _hx
  have e1 : (i : Int) / 16 = ((i / 16 : Nat) : Int) := by omega
  have e2 : (i : Int) % 16 = ((i % 16 : Nat) : Int) := by omega
  have hbd := bit_dig x i
  obtain ⟨q, hq⟩ : ∃ q, q = i / 16 := ⟨_, rfl⟩
  obtain ⟨s, hs⟩ : ∃ s, s = i % 16 := ⟨_, rfl⟩
  rw [← hq, ← hs] at hbd
  rw [← hq] at e1
  rw [← hs] at e2
  have hs16 : s < 16 := by omega
  have hql : q ≤ 1000000000 := by omega
  by_cases hqL : q < L
  · have c := ha.cell q (by rw [← hL]; exact hqL)
    have hdl := dig_lt x q
    obtain ⟨d, hd⟩ : ∃ d, d = dig x q := ⟨_, rfl⟩
    rw [← hd] at c hdl hbd
    have hS2 : (2 : Int) ^ s = ((2 ^ s : Nat) : Int) := by simp
    obtain ⟨S, hS⟩ : ∃ S, S = 2 ^ s := ⟨_, rfl⟩
    rw [← hS] at hS2 hbd
    have hdq : (d : Int) / (S : Int) = ((d / S : Nat) : Int) := by simp
    have hdl2 : d / S < 65536 := Nat.lt_of_le_of_lt (Nat.div_le_self _ _) hdl
    have han := and1_i64 (d / S) hdl2
    obtain ⟨t, ht⟩ : ∃ t, t = d / S := ⟨_, rfl⟩
    rw [← ht] at hdq han hdl2 hbd
    have hf : (((t % 2 : Nat) : Int) == 1) = decide (x / 2 ^ i % 2 = 1) := by
      rw [hbd]
      rcases (by omega : t % 2 = 0 ∨ t % 2 = 1) with h | h <;> rw [h] <;> rfl
    obtain ⟨u, hu⟩ : ∃ u, u = t % 2 := ⟨_, rfl⟩
    rw [← hu] at han hf
    obtain ⟨B, hB⟩ : ∃ B, B = decide (x / 2 ^ i % 2 = 1) := ⟨_, rfl⟩
    rw [← hB] at hf ⊢
    have t1 : decide ((q : Int) < L) = true := decide_eq_true (by omega)
    clear hd hS ht hu hB hbd ha hL hq hs
    go_enter Tryz.func104, Tryz.ntmps104
    go_wp2
    go_ret
    exact ⟨rfl, rfl⟩
  · have t1 : decide ((q : Int) < L) = false := decide_eq_false (by omega)
    have hf : decide (x / 2 ^ i % 2 = 1) = false := by
      rw [hbd, dig_ge (by rw [← hL]; omega)]; simp
    rw [hf]
    clear hf hbd ha hL hq hs
    go_enter Tryz.func104, Tryz.ntmps104
    go_wp2
    go_ret
    exact ⟨rfl, rfl⟩
theorem dig_shr (x n k : Nat) : (dig x (n / 16 + k) + 65536 * dig x (n / 16 + k + 1)) / 2 ^ (n % 16) % 65536 = dig (x / 2 ^ n) k := by
  have hs : n % 16 < 16 := Nat.mod_lt _ (by decide)
  have h1 : (2 : Nat) ^ n = 65536 ^ (n / 16) * 2 ^ (n % 16) := two_split n
  unfold dig
  rw [h1, Nat.div_div_eq_div_mul]
  have e0 : 65536 ^ (n / 16) * 2 ^ (n % 16) * 65536 ^ k = 65536 ^ (n / 16 + k) * 2 ^ (n % 16) := by rw [Nat.pow_add]; simp only [Nat.mul_comm, Nat.mul_left_comm]
  rw [e0, ← Nat.div_div_eq_div_mul, Nat.pow_succ, ← Nat.div_div_eq_div_mul]
  generalize x / 65536 ^ (n / 16 + k) = X
  generalize n % 16 = s at *
  have h2 : X % 65536 + 65536 * (X / 65536 % 65536) = X % (65536 * 65536) := by rw [Nat.mod_mul]
  rw [h2]
  have h3 : (65536 : Nat) * 65536 = 2 ^ s * (65536 * 2 ^ (16 - s)) := by
    rw [show (65536 : Nat) = 2 ^ 16 from rfl, ← Nat.pow_add, ← Nat.pow_add, ← Nat.pow_add]; congr 1; omega
  rw [h3, Nat.mod_mul_right_div_self, Nat.mod_mul_right_mod]
def ShrRel (Y B k : Nat) (w : World) (v : Value) (wr : World) : Prop :=
  ∃ ds : List Nat, Own wr B 3 v (cellsN ds) ∧ (∀ d ∈ ds, d < 65536) ∧ ds.length = k ∧ val ds = Y % 65536 ^ k ∧ Below B w wr
theorem ShrRel.step {Y B k r : Nat} {w w1 : World} {v1 : Value} {ds : List Nat} (hd : ∀ d ∈ ds, d < 65536) (hdl : ds.length = k) (hv : val ds = Y % 65536 ^ k) (hr : r = dig Y k)
    (ho : Own w1 B 3 v1 (cellsN ds ++ [.int .i64 (r : Int)])) (hb : Below B w w1) : ShrRel Y B (k + 1) w v1 w1 := by
  rw [cellsN_snoc] at ho
  refine ⟨_, ho, ?_, by simp [hdl], ?_, hb⟩
  · intro z hz
    rcases List.mem_append.1 hz with h | h
    · exact hd z h
    · rw [List.mem_singleton.1 h, hr]; exact dig_lt _ _
  · rw [val_snoc, hdl, mod_succ, hv, hr]
set_option maxRecDepth 100000 in
set_option maxHeartbeats 800000 in
theorem spShr (a : Value) (x n : Nat) (w : World) (ha : NatV w a x) (hx : nl x ≤ 1000000000) (hn : n ≤ 16000000000) :
    Calls Tryz.prog 138 #[a, .int .i64 n] w fun e w' => ∃ r, e = .returned r ∧ NPost (x / 2 ^ n) w r w' := by
  have hSa := ha.isS
  have hLa := ha.len
  obtain ⟨L, hL⟩ : ∃ L, L = nl x := ⟨_, rfl⟩
  rw [← hL] at hLa hx
  have e1 : (n : Int) / 16 = ((n / 16 : Nat) : Int) := by omega
  have e2 : (n : Int) % 16 = ((n % 16 : Nat) : Int) := by omega
  have hdg := dig_shr x n
  have hx2 : x < 65536 ^ L := by rw [hL]; exact lt_nl x
  have h2n : (2 : Nat) ^ n = 65536 ^ (n / 16) * 2 ^ (n % 16) := two_split n
  obtain ⟨q, hq⟩ : ∃ q, q = n / 16 := ⟨_, rfl⟩
  obtain ⟨s, hs⟩ : ∃ s, s = n % 16 := ⟨_, rfl⟩
  rw [← hq, ← hs] at hdg h2n
  rw [← hq] at e1
  rw [← hs] at e2
  have hs16 : s < 16 := by omega
  have hql : q ≤ 1000000000 := by omega
  have hfin : ∀ k, L ≤ q + k → x / 2 ^ n % 65536 ^ k = x / 2 ^ n := fun k hk => by
    refine Nat.mod_eq_of_lt (Nat.div_lt_of_lt_mul ?_)
    rw [h2n]
    have h3 : x < 65536 ^ (q + k) := Nat.lt_of_lt_of_le hx2 (Nat.pow_le_pow_right (by decide) hk)
    rw [Nat.pow_add] at h3
    have h4 := Nat.two_pow_pos s
    calc x < 65536 ^ q * 65536 ^ k := h3
      _ ≤ 65536 ^ q * 2 ^ s * 65536 ^ k := Nat.mul_le_mul_right _ (Nat.le_mul_of_pos_right _ h4)
  obtain ⟨Y, hY⟩ : ∃ Y, Y = x / 2 ^ n := ⟨_, rfl⟩
  rw [← hY] at hfin hdg ⊢
  have hS2 : (2 : Int) ^ s = ((2 ^ s : Nat) : Int) := by simp
  obtain ⟨S, hS⟩ : ∃ S, S = 2 ^ s := ⟨_, rfl⟩
  rw [← hS] at hS2 hdg
  have HL := Lib.hid hL
  have HA := Lib.hid ha
  have HF := Lib.hid hfin
  have HG := Lib.hid hdg
  clear hL ha hfin hdg hx2 h2n hq hs hY hS
  go_enter Tryz.func138, Tryz.ntmps138
  go_wp2
  go_loopw [5, 6] (fun v i wr => ∃ k : Nat, (k = 0 ∨ q + k ≤ L) ∧ i = .int .i64 ((q + k : Nat) : Int) ∧ ShrRel Y w.heap.size k w v wr) (fun _ i _ => L - (intOf i).toNat)
  case atStart => exact ⟨0, .inl rfl, rfl, [], Own.zero _ _ _ _ _, by simp, rfl, by simp [val, Nat.mod_one], (Below.refl _ _).alloc (Nat.le_refl _) _⟩
  case round =>
    obtain ⟨k, hk, rfl, ds, ho, hd, hdl, hv, hbl⟩ := hrel
    have Hd := Lib.hid hd
    have Hdl := Lib.hid hdl
    have Hv := Lib.hid hv
    have hbz := hbl.size
    have Hcl := Lib.hid (cellsN_length ds)
    have hkk : k ≤ 1000000000 := by omega
    clear hd hdl hv
    obtain ⟨j, hj⟩ : ∃ j, j = q + k := ⟨_, rfl⟩
    have hjl : j ≤ 2000000000 := by omega
    rw [← hj]
    by_cases hka : j < L
    · have ca := (HA.out.below hbl).cell j (by rw [← HL.out]; exact hka)
      have cb : j + 1 < L → _ := fun h => (HA.out.below hbl).cell (j + 1) (by rw [← HL.out]; exact h)
      have g1 := dig_lt x j
      have g2 := dig_lt x (j + 1)
      have hyz : ¬ j + 1 < L → dig x (j + 1) = 0 := fun h => dig_ge (by rw [← HL.out]; omega)
      have hG := HG.out k
      rw [← hj] at hG
      obtain ⟨d, hdd⟩ : ∃ d, d = dig x j := ⟨_, rfl⟩
      obtain ⟨c, hcc⟩ : ∃ c, c = dig x (j + 1) := ⟨_, rfl⟩
      rw [← hdd] at ca g1 hG
      rw [← hcc] at cb hyz g2 hG
      have t0 : decide (j < L) = true := decide_eq_true hka
      obtain ⟨u, hu⟩ : ∃ u, u = d + 65536 * c := ⟨_, rfl⟩
      rw [← hu] at hG
      have hq1 : (u : Int) / (S : Int) = ((u / S : Nat) : Int) := by simp
      have hul : u / S ≤ u := Nat.div_le_self _ _
      obtain ⟨z, hz⟩ : ∃ z, z = u / S := ⟨_, rfl⟩
      rw [← hz] at hq1 hul hG
      have hr2 : (z : Int) % 65536 = ((z % 65536 : Nat) : Int) := by simp
      obtain ⟨r, hr⟩ : ∃ r, r = z % 65536 := ⟨_, rfl⟩
      rw [← hr] at hr2 hG
      have Hg := Lib.hid hG
      have fin : ∀ (v1 : Value) (w1 : World), Own w1 w.heap.size 3 v1 (cellsN ds ++ [.int .i64 (r : Int)]) → Below w.heap.size w w1 → ShrRel Y w.heap.size (k + 1) w v1 w1 :=
        fun v1 w1 h3 h4 => ShrRel.step Hd.out Hdl.out Hv.out Hg.out h3 h4
      have Fin := Lib.hid fin
      have hdlk : ds.length ≤ 1000000000 := by have := Hdl.out; omega
      have Hj := Lib.hid hj
      clear fin hG hr hz hcc hdd hj
      rcases (by omega : j + 1 < L ∨ ¬ j + 1 < L) with h | h
      case' inl =>
        have cb' := cb h
        have t1 : decide (j + 1 < L) = true := decide_eq_true h
        have eu : (d : Int) + 65536 * (c : Int) = (u : Int) := by omega
      case' inr =>
        have cb' := hyz h
        have t1 : decide (j + 1 < L) = false := decide_eq_false h
        have eu : d = u := by omega
        subst eu
        clear cb'
      all_goals
        clear hu hyz cb
        go_wp2_with (at_builtin; refine wpList_append_O rfl _ _ _ _ rfl elemN w.heap.size _ _ rfl (ho.alloc _) _ rfl 1 [.int .i64 _] (srcOne Tryz.underlying29 wr _ _) ?_ ?_ ?_ ?_)
        · rw [Hcl.out]; unfold maxLen; omega
        · rw [Hcl.out]; omega
        · simp; omega
        · intro v1 w1 ho1 hb1 _ _ _
          have hs := Fin.out v1 w1 ho1 ((hbl.alloc hbz _).trans hb1)
          have Hs := Lib.hid hs
          clear hs ho1
          go_wp2
          refine ⟨⟨k + 1, .inr (by have := Hj.out; omega), ?_, Hs.out⟩, by simp [intOf]; omega⟩
          have := Hj.out
          exact congrArg (Value.int .i64) (by omega)
    · have t0 : decide (j < L) = false := decide_eq_false hka
      have Hj := Lib.hid hj
      clear hj
      go_wp2_with fail
      refine (spTrim _ ds wr ho.rl Hd.out (by have := Hdl.out; omega)).mono ?_
      rintro _ _ ⟨r, rfl, hr, rfl⟩
      have Hr := Lib.hid hr
      clear hr
      go_wp2
      go_ret
      refine ⟨_, rfl, ?_, hbl⟩
      have := HF.out k (by have := Hj.out; omega)
      rw [← this, ← Hv.out]
      exact Hr.out
theorem low_sub (x n : Nat) : x - x / 2 ^ n * 2 ^ n = x % 2 ^ n := by have := Nat.div_add_mod x (2 ^ n); rw [Nat.mul_comm] at this; omega
theorem lef_cmp {R D : Nat} (h : R ≠ 0) : 2 + cmpN (R + R) D = ((lef R D 0 : Nat) : Int) := by
  unfold lef
  rw [if_neg (by omega)]
  rcases Nat.lt_trichotomy (2 * R) D with c | c | c
  · rw [if_pos c, cmpN_lt (by omega)]; rfl
  · rw [if_neg (by omega), if_pos ⟨c, rfl⟩, show R + R = D by omega, cmpN_eq]; rfl
  · rw [if_neg (by omega), if_neg (by omega), cmpN_gt (by omega)]; rfl
set_option maxRecDepth 100000 in
set_option maxHeartbeats 1600000 in
theorem spSplit (a : Value) (x n : Nat) (w : World) (ha : NatV w a x) (hx : nl x ≤ 100000000) (hn : n ≤ 1600000000) :
    Calls Tryz.prog 102 #[a, .int .i64 n] w fun e w' => ∃ r, e = .returned (.tuple #[r, .int .i64 ((lef (x % 2 ^ n) (2 ^ n) 0 : Nat) : Int)]) ∧ NPost (x / 2 ^ n) w r w' := by
  have hSa := ha.isS
  have Ha := Lib.hid ha
  have hq : nl (x / 2 ^ n) ≤ 1000000000 := Nat.le_trans (nl_mono (Nat.div_le_self x _)) (by omega)
  have hq2 : nl (x / 2 ^ n * 2 ^ n) ≤ 1000000000 := Nat.le_trans (nl_mono (Nat.div_mul_le_self x _)) (by omega)
  have hle : x / 2 ^ n * 2 ^ n ≤ x := Nat.div_mul_le_self x _
  have hlow := low_sub x n
  have hrl : x % 2 ^ n ≤ x := Nat.mod_le _ _
  have hnr : nl (x % 2 ^ n) ≤ 100000000 := Nat.le_trans (nl_mono hrl) hx
  have hnD : nl (2 ^ n) ≤ 1000000000 := by rw [nl_two]; omega
  obtain ⟨D, hD⟩ : ∃ D, D = 2 ^ n := ⟨_, rfl⟩
  have hB : ∀ W : World, Calls Tryz.prog 105 #[.int .i64 n] W fun e w' => ∃ r, e = .returned r ∧ NPost D W r w' := fun W => by rw [hD]; exact spBit n W (by omega)
  have hSh : ∀ (W : World) (v : Value), NatV W v (x / D) → Calls Tryz.prog 71 #[v, .int .i64 n] W fun e w' => ∃ r, e = .returned r ∧ NPost (x / D * D) W r w' := fun W v h => by rw [hD] at h ⊢; exact spShl v _ n W h hq (by omega)
  rw [← hD] at hq2 hle hlow hnr hnD hrl hq ⊢
  have HSr : Hid (Calls Tryz.prog 138 #[a, .int .i64 n] w fun e w' => ∃ r, e = .returned r ∧ NPost (x / D) w r w') := Lib.hid (by rw [hD]; exact spShr a x n w Ha.out (by omega) (by omega))
  have HBit := Lib.hid hB
  have HShl := Lib.hid hSh
  have HLow := Lib.hid hlow
  have hR2 : nl (x % D + x % D) ≤ 1000000000 := by
    have h1 : x % D + x % D < 65536 ^ (nl (x % D) + 1) := by have := lt_nl (x % D); rw [Nat.pow_succ]; omega
    have := nl_le h1; omega
  obtain ⟨R, hR⟩ : ∃ R, R = x % D := ⟨_, rfl⟩
  obtain ⟨q, hqq⟩ : ∃ q, q = x / D := ⟨_, rfl⟩
  rw [← hR] at HLow hnr hR2 ⊢
  rw [← hqq] at HSr HShl HLow hq hq2 hle ⊢
  have HLe := Lib.hid hle
  clear hD hB hSh hlow hR hqq ha hrl hle
  go_enter Tryz.func102, Tryz.ntmps102
  go_wp2_with fail
  refine HSr.out.mono ?_
  rintro _ w1 ⟨r1, rfl, hn1, hb1⟩
  have HN1 := Lib.hid hn1
  have hS1 := hn1.isS
  have HB1 := Lib.hid hb1
  clear hn1 hb1
  go_wp2_with fail
  refine (HShl.out w1 r1 HN1.out).mono ?_
  rintro _ w2 ⟨r2, rfl, hn2, hb2⟩
  have HN2 := Lib.hid hn2
  have hS2 := hn2.isS
  have HB2 := Lib.hid (bthen HB1.out hb2)
  have hx2 : nl x ≤ 1000000000 := by omega
  have HN12 := Lib.hid (HN1.out.below hb2)
  clear hn2 hb2
  go_wp2_with fail
  refine (spSub a r2 x (q * D) w2 (Ha.out.below HB2.out) HN2.out hx2 HLe.out).mono ?_
  rintro _ w3 ⟨r3, rfl, hn3, hb3⟩
  rw [HLow.out] at hn3
  have hS3 := hn3.isS
  have hL3 := hn3.len
  have HN3 := Lib.hid hn3
  have HB3 := Lib.hid (bthen HB2.out hb3)
  have HN13 := Lib.hid (HN12.out.below hb3)
  clear hn3 hb3
  by_cases hR0 : R = 0
  · have t0 : ((nl R : Int) == 0) = true := by rw [hR0]; rfl
    have HLZ : Hid (((lef R D 0 : Nat) : Int) = 0) := Lib.hid (by rw [hR0, lef_exact]; rfl)
    have h0 : nl R = 0 := by rw [hR0]; rfl
    rw [h0] at hL3
    clear hR0 t0 h0
    go_wp2
    go_ret2
    refine ⟨r1, ?_, HN13.out, HB3.out⟩
    rw [HLZ.out]; rfl
  · have hp := nl_pos (Nat.pos_of_ne_zero hR0)
    have t0 : ((nl R : Int) == 0) = false := by rw [beq_eq_false_iff_ne]; omega
    have HLC := Lib.hid (lef_cmp (D := D) hR0)
    clear hR0 hp
    go_wp2_with fail
    refine (spAdd r3 r3 R R w3 HN3.out HN3.out (by omega) (by omega)).mono ?_
    rintro _ w4 ⟨r4, rfl, hn4, hb4⟩
    have HN4 := Lib.hid hn4
    have hS4 := hn4.isS
    have HB4 := Lib.hid (bthen HB3.out hb4)
    have HN14 := Lib.hid (HN13.out.below hb4)
    clear hn4 hb4
    go_wp2_with fail
    refine (HBit.out w4).mono ?_
    rintro _ w5 ⟨r5, rfl, hn5, hb5⟩
    have HN5 := Lib.hid hn5
    have hS5 := hn5.isS
    have HB5 := Lib.hid (bthen HB4.out hb5)
    have HN15 := Lib.hid (HN14.out.below hb5)
    have HN45 := Lib.hid (HN4.out.below hb5)
    clear hn5 hb5
    go_wp2_with fail
    refine (spCmp r4 r5 (R + R) D w5 HN45.out HN5.out hR2 hnD).mono ?_
    rintro _ w6 ⟨rfl, hb6⟩
    have HB6 := Lib.hid (bthen HB5.out hb6)
    have HN16 := Lib.hid (HN15.out.below hb6)
    have hcb := cmpN_bd (R + R) D
    have hlc := HLC.out
    obtain ⟨c, hc⟩ : ∃ c, c = cmpN (R + R) D := ⟨_, rfl⟩
    rw [← hc] at hcb hlc ⊢
    have HC := Lib.hid hlc
    clear hb6 hc hlc
    go_wp2
    go_ret2
    refine ⟨r1, ?_, HN16.out, HB6.out⟩
    rw [← HC.out]; rfl
set_option maxRecDepth 100000 in
set_option maxHeartbeats 3200000 in
theorem spAway (neg odd : Bool) (left mode : Nat) (w : World) (hl : left ≤ 3) (hm : mode ≤ 5) :
    Calls Tryz.prog 103 #[.bool neg, .bool odd, .int .i64 left, .int .i64 mode] w fun e w' => e = .returned (.bool (awy neg odd left mode)) ∧ w = w' := by
  rcases (by omega : left = 0 ∨ left = 1 ∨ left = 2 ∨ left = 3) with rfl | rfl | rfl | rfl <;> rcases (by omega : mode = 0 ∨ mode = 1 ∨ mode = 2 ∨ mode = 3 ∨ mode = 4 ∨ mode = 5) with rfl | rfl | rfl | rfl | rfl | rfl <;> cases neg <;> cases odd <;>
    (go_enter Tryz.func103, Tryz.ntmps103) <;> go_wp2 <;> go_ret <;> first | exact ⟨rfl, rfl⟩ | exact ⟨rfl, trivial⟩ | exact ⟨trivial, trivial⟩ | trivial
theorem natv_dyad {w : World} {k T n : Nat} {a : Bool} {b x y z v : Value} (hb : IsS b) (hv : NatV w v n) (h : w.heap[k]? = some (.cells #[.bool a, b, .int .i64 0] T (0, 0))) :
    NatV (((w.setCell ⟨k, 0, none⟩ x).setCell ⟨k, 1, none⟩ y).setCell ⟨k, 2, none⟩ z) v n := by
  refine ⟨hv.isS, hv.len, fun i hi => ?_⟩
  have hne : sBlk v ≠ k := by
    intro he
    have ht := hv.cell (nl n - 1) (by omega)
    rw [he, cell_of_row w k _ _ _ _ h] at ht
    obtain ⟨b1, b2, b3, rfl⟩ := hb.form
    have hd : dig n (nl n - 1) ≠ 0 := dig_last (Nat.pos_of_ne_zero fun h0 => by rw [h0] at hi; rw [nl_zero] at hi; omega)
    rcases Nat.lt_or_ge (sOff v + (nl n - 1)) 3 with h3 | h3
    · rcases (by omega : sOff v + (nl n - 1) = 0 ∨ sOff v + (nl n - 1) = 1 ∨ sOff v + (nl n - 1) = 2) with e | e | e <;> rw [e] at ht <;> simp at ht
      exact hd (by omega)
    · rw [Array.getElem?_eq_none (by simpa using h3)] at ht; cases ht
  have hh : (((w.setCell ⟨k, 0, none⟩ x).setCell ⟨k, 1, none⟩ y).setCell ⟨k, 2, none⟩ z).heap[sBlk v]? = w.heap[sBlk v]? := by
    rw [heap_setCell_other _ _ _ _ (by simpa using hne), heap_setCell_other _ _ _ _ (by simpa using hne), heap_setCell_other _ _ _ _ (by simpa using hne)]
  exact (World.cell?_of_block hh).trans (hv.cell i hi)
theorem bl_two (x n : Nat) : bl (x * 2 ^ n) ≤ bl x + n := bl_le (by
  rw [Nat.pow_add]; exact Nat.mul_lt_mul_of_pos_right (lt_bl x) (Nat.two_pow_pos n))
theorem nl_of_bl {n k : Nat} (h : bl n ≤ k) : nl n ≤ k := nl_bl (by omega)
theorem wrap_i64_id {a : Int} (h1 : -9223372036854775808 ≤ a) (h2 : a ≤ 9223372036854775807) : IntKind.i64.wrap a = a := by rw [IntKind.wrap_i64]; omega
theorem row_new (w : World) (cs : Array Value) (T k : Nat) (hk : w.heap.size = k) : (w.alloc (.cells cs T)).heap[k]? = some (.cells cs T (0, 0)) := by
  subst hk; exact box_row (Below.refl _ _)
def ctU (m : Nat) (neg : Bool) (x k : Nat) : Bool := awy neg (decide (x / 2 ^ k % 2 = 1)) (lef (x % 2 ^ k) (2 ^ k) 0) m
def ctQ (m : Nat) (neg : Bool) (x k : Nat) : Nat := x / 2 ^ k + if ctU m neg x k then 1 else 0
def ctA (m : Nat) (neg : Bool) (x k : Nat) : Int := if lef (x % 2 ^ k) (2 ^ k) 0 = 0 then 0 else if ctU m neg x k != neg then 1 else -1
theorem ct_rQ (p m : Nat) (neg : Bool) (M : Nat) : ctQ m neg M (rk p M) = rQ p m neg 0 M := rfl
theorem ct_rA (p m : Nat) (neg : Bool) (M : Nat) : ctA m neg M (rk p M) = rA p m neg 0 M := rfl
theorem lef_le (R D s : Nat) : lef R D s ≤ 3 := by unfold lef; repeat' split
                                                   all_goals omega
set_option maxRecDepth 100000 in
set_option maxHeartbeats 1600000 in
theorem spCut_pos (neg : Bool) (a : Value) (x k m : Nat) (w : World) (ha : NatV w a x) (hx : nl x ≤ 10000000) (hk0 : 0 < k) (hk : k ≤ 160000000) (hm : m ≤ 5) :
    Calls Tryz.prog 69 #[.bool neg, a, .int .i64 k, .int .i64 m] w fun e w' => ∃ r, e = .returned (.tuple #[r, .int .i64 (ctA m neg x k)]) ∧ NPost (ctQ m neg x k) w r w' := by
  have hSa := ha.isS
  have Hs := Lib.hid (spSplit a x k w ha (by omega) (by omega))
  have hq : nl (x / 2 ^ k) ≤ 100000000 := Nat.le_trans (nl_mono (Nat.div_le_self x _)) (by omega)
  have t0 : decide ((k : Int) ≤ 0) = false := decide_eq_false (by omega)
  have hl3 := lef_le (x % 2 ^ k) (2 ^ k) 0
  obtain ⟨U, hU⟩ : ∃ U, U = ctU m neg x k := ⟨_, rfl⟩
  obtain ⟨l, hl⟩ : ∃ l, l = lef (x % 2 ^ k) (2 ^ k) 0 := ⟨_, rfl⟩
  obtain ⟨q, hqq⟩ : ∃ q, q = x / 2 ^ k := ⟨_, rfl⟩
  have hU2 : U = awy neg (decide (q / 2 ^ 0 % 2 = 1)) l m := by rw [hU, hl, hqq, Nat.pow_zero, Nat.div_one]; rfl
  have HA : Hid (ctA m neg x k = if l = 0 then 0 else if U != neg then 1 else -1) := Lib.hid (by rw [hU, hl]; rfl)
  have HQ : Hid (ctQ m neg x k = q + if U then 1 else 0) := Lib.hid (by rw [hU, hqq]; rfl)
  rw [← hl, ← hqq] at Hs
  rw [← hl] at hl3
  rw [← hqq] at hq
  have HU := Lib.hid hU2
  have HL := Lib.hid hl
  have HUU := Lib.hid hU
  clear hU hU2 hl hqq ha
  go_enter Tryz.func69, Tryz.ntmps69
  go_wp2_with fail
  refine Hs.out.mono ?_
  rintro _ w1 ⟨r1, rfl, hn1, hb1⟩
  have hS1 := hn1.isS
  have HN := Lib.hid hn1
  have HB := Lib.hid hb1
  clear hn1 hb1
  by_cases hl0 : l = 0
  · have t1 : ((l : Int) == 0) = true := by rw [hl0]; rfl
    have HL0 := Lib.hid hl0
    clear hl0
    go_wp2
    go_ret2
    have hu : U = false := by rw [HU.out, HL0.out]; exact awy_zero _ _ _
    refine ⟨r1, ?_, ?_, HB.out⟩
    · rw [HA.out, if_pos HL0.out]; rfl
    · rw [HQ.out, hu]; exact HN.out
  · have t1 : ((l : Int) == 0) = false := by rw [beq_eq_false_iff_ne]; omega
    have HL0 := Lib.hid hl0
    clear hl0
    have hq2 : nl q ≤ 1000000000 := by omega
    have hH := spHas r1 q 0 w1 HN.out hq2 (by omega)
    rw [show ((0 : Nat) : Int) = 0 from rfl] at hH
    have HH := Lib.hid hH
    clear hH
    go_wp2_with fail
    refine HH.out.mono ?_
    rintro _ _ ⟨rfl, rfl⟩
    obtain ⟨od, hod⟩ : ∃ o, o = decide (q / 2 ^ 0 % 2 = 1) := ⟨_, rfl⟩
    have hU3 := HU.out
    rw [← hod] at hU3 ⊢
    have HU3 := Lib.hid hU3
    clear hod hU3
    go_wp2_with fail
    refine (spAway neg od l m w1 hl3 hm).mono ?_
    rintro _ _ ⟨rfl, rfl⟩
    rw [← HU3.out]
    cases U with
    | false =>
      cases neg with
      | false =>
        go_wp2
        go_ret2
        refine ⟨r1, ?_, ?_, HB.out⟩
        · rw [HA.out, if_neg HL0.out]; rfl
        · rw [HQ.out]; exact HN.out
      | true =>
        go_wp2
        go_ret2
        refine ⟨r1, ?_, ?_, HB.out⟩
        · rw [HA.out, if_neg HL0.out]; rfl
        · rw [HQ.out]; exact HN.out
    | true =>
      have hSm := spSmall 1 w1 (by decide)
      rw [show ((1 : Nat) : Int) = 1 from rfl] at hSm
      have HSm := Lib.hid hSm
      clear hSm
      go_wp2_with fail
      refine HSm.out.mono ?_
      rintro _ w2 ⟨r2, rfl, hn2, hb2⟩
      have hS2 := hn2.isS
      have HN2 := Lib.hid hn2
      have HN12 := Lib.hid (HN.out.below hb2)
      have HB2 := Lib.hid (bthen HB.out hb2)
      clear hn2 hb2
      go_wp2_with fail
      refine (spAdd r1 r2 q 1 w2 HN12.out HN2.out hq2 (by decide)).mono ?_
      rintro _ w3 ⟨r3, rfl, hn3, hb3⟩
      have hS3 := hn3.isS
      have HN3 := Lib.hid hn3
      have HB3 := Lib.hid (bthen HB2.out hb3)
      clear hn3 hb3
      cases neg with
      | false =>
        go_wp2
        go_ret2
        refine ⟨r3, ?_, ?_, HB3.out⟩
        · rw [HA.out, if_neg HL0.out]; rfl
        · rw [HQ.out]; exact HN3.out
      | true =>
        go_wp2
        go_ret2
        refine ⟨r3, ?_, ?_, HB3.out⟩
        · rw [HA.out, if_neg HL0.out]; rfl
        · rw [HQ.out]; exact HN3.out
set_option maxRecDepth 100000 in
theorem spCut_neg (neg : Bool) (a : Value) (x k : Nat) (n m : Int) (w : World) (ha : NatV w a x) (hx : nl x ≤ 10000000) (hn : n = -(k : Int)) (hk : k ≤ 160000000) :
    Calls Tryz.prog 69 #[.bool neg, a, .int .i64 n, .int .i64 m] w fun e w' => ∃ r, e = .returned (.tuple #[r, .int .i64 0]) ∧ NPost (x * 2 ^ k) w r w' := by
  have hSa := ha.isS
  have t0 : decide (n ≤ 0) = true := decide_eq_true (by omega)
  have e1 : -n = (k : Int) := by omega
  have g1 : -160000000 ≤ n := by omega
  have g2 : n ≤ 0 := by omega
  have HS := Lib.hid (spShl a x k w ha (by omega) (by omega))
  clear hn ha
  go_enter Tryz.func69, Tryz.ntmps69
  go_wp2_with fail
  refine HS.out.mono ?_
  rintro _ w1 ⟨r1, rfl, hn1, hb1⟩
  have hS1 := hn1.isS
  have HN := Lib.hid hn1
  have HB := Lib.hid hb1
  clear hn1 hb1
  go_wp2
  go_ret2
  exact ⟨r1, rfl, HN.out, HB.out⟩
theorem ctQ_zero (m : Nat) (neg : Bool) (x : Nat) : ctQ m neg x 0 = x ∧ ctA m neg x 0 = 0 := by
  have h : lef (x % 2 ^ 0) (2 ^ 0) 0 = 0 := by rw [Nat.pow_zero, Nat.mod_one]; exact lef_exact _
  refine ⟨?_, by unfold ctA; rw [if_pos h]⟩
  unfold ctQ ctU; rw [h, awy_zero]; simp
theorem spCut_any (neg : Bool) (a : Value) (x k m : Nat) (w : World) (ha : NatV w a x) (hx : nl x ≤ 10000000) (hk : k ≤ 160000000) (hm : m ≤ 5) :
    Calls Tryz.prog 69 #[.bool neg, a, .int .i64 k, .int .i64 m] w fun e w' => ∃ r, e = .returned (.tuple #[r, .int .i64 (ctA m neg x k)]) ∧ NPost (ctQ m neg x k) w r w' := by
  rcases Nat.eq_zero_or_pos k with rfl | h
  · rw [(ctQ_zero m neg x).1, (ctQ_zero m neg x).2]
    have := spCut_neg neg a x 0 ((0 : Nat) : Int) (m : Int) w ha hx rfl (by decide)
    rw [Nat.pow_zero, Nat.mul_one] at this
    exact this
  · exact spCut_pos neg a x k m w ha hx h hk hm
def btU (M : Nat) (E : Int) (k : Nat) (L : Int) : Int := max L (E + bl M - 1 - k)
def btQ (n : Bool) (M : Nat) (E u : Int) : Nat := if u ≤ E then M * 2 ^ (E - u).toNat else ctQ 0 n M (u - E).toNat
def btA (n : Bool) (M : Nat) (E u : Int) : Int := if u ≤ E then 0 else ctA 0 n M (u - E).toNat
def btI (Q : Nat) (u : Int) (k : Nat) (L : Int) (T : Nat) : Bool := decide ((T : Int) - 1 ≤ u - L ∨ T * 2 ^ k ≤ (u - L).toNat * 2 ^ k + Q)
def btV (n : Bool) (M : Nat) (E : Int) (k : Nat) (L : Int) (T : Nat) : Nat :=
  if btI (btQ n M E (btU M E k L)) (btU M E k L) k L T then T * 2 ^ k else (btU M E k L - L).toNat * 2 ^ k + btQ n M E (btU M E k L)
def btS (n : Bool) (M : Nat) (E : Int) (k : Nat) (L : Int) (T : Nat) : Int :=
  if btI (btQ n M E (btU M E k L)) (btU M E k L) k L T then (if n then -1 else 1) else btA n M E (btU M E k L)
theorem bt_low {n : Bool} {M k T : Nat} {E L : Int} (hM : 0 < M) (hp : E + bl M < L) (hT : 2 ≤ T) : btV n M E k L T = 0 ∧ btS n M E k L T = if n then 1 else -1 := by
  have hb := bl_pos hM
  have hu : btU M E k L = L := by unfold btU; omega
  have hlt := lt_bl M
  have hd : M / 2 ^ (L - E).toNat = 0 := Nat.div_eq_of_lt (Nat.lt_of_lt_of_le hlt (Nat.pow_le_pow_right (by decide) (by omega)))
  have hm : M % 2 ^ (L - E).toNat = M := Nat.mod_eq_of_lt (Nat.lt_of_lt_of_le hlt (Nat.pow_le_pow_right (by decide) (by omega)))
  have h2 : 2 * M < 2 ^ (L - E).toNat := by
    have h3 : 2 ^ (bl M + 1) ≤ 2 ^ (L - E).toNat := Nat.pow_le_pow_right (by decide) (by omega)
    rw [Nat.pow_succ] at h3
    omega
  have hl : lef (M % 2 ^ (L - E).toNat) (2 ^ (L - E).toNat) 0 = 1 := by
    rw [hm]; unfold lef; rw [if_neg (by omega), if_pos h2]
  have hU : ctU 0 n M (L - E).toNat = false := by
    unfold ctU; rw [hl]; unfold awy; simp
  have hQ : btQ n M E L = 0 := by
    unfold btQ; rw [if_neg (by omega)]; unfold ctQ; rw [hd, hU]; simp
  have hA : btA n M E L = if n then 1 else -1 := by
    unfold btA; rw [if_neg (by omega)]; unfold ctA; rw [hl, hU]; cases n <;> simp
  have hI : btI 0 L k L T = false := by
    unfold btI
    refine decide_eq_false ?_
    have hp2 := Nat.mul_le_mul_left 2 (Nat.two_pow_pos k)
    have hp3 := Nat.mul_le_mul_right (2 ^ k) hT
    rw [Int.sub_self]
    simp only [Int.toNat_zero, Nat.zero_mul, Nat.zero_add]
    omega
  unfold btV btS
  rw [hu, hQ, hA, hI]
  simp
theorem rf_cut {N D a c k p : Nat} {u : Int} (n : Bool) (hD : 0 < D) (hp : p < bl (qN N (D * 2 ^ c) a)) (hk : p < bl (qN N D k)) (hu : u + p = (bl (qN N (D * 2 ^ c) a) : Int) + c - a) :
    (bl (2 * qN N D k + qS N D k) : Int) + (-(k : Int) - 1) = u + p ∧ btQ n (2 * qN N D k + qS N D k) (-(k : Int) - 1) u = rQ p 0 n (qS N (D * 2 ^ c) a) (qN N (D * 2 ^ c) a) ∧
    btA n (2 * qN N D k + qS N D k) (-(k : Int) - 1) u = rA p 0 n (qS N (D * 2 ^ c) a) (qN N (D * 2 ^ c) a) := by
  have h := quo_both (p := p) (m := 0) (M1 := N) (M2 := D) (u := 0) (v := c) (t := a) (s := 0) (k := k) n hD (by rw [Nat.pow_zero, Nat.mul_one]; exact hp) hk
  rw [Nat.pow_zero, Nat.mul_one, Nat.mul_one] at h
  obtain ⟨h1, h2, h3⟩ := h
  obtain ⟨Q, hQ⟩ : ∃ Q, Q = qN N (D * 2 ^ c) a := ⟨_, rfl⟩
  obtain ⟨K, hK⟩ : ∃ K, K = qN N D k := ⟨_, rfl⟩
  rw [← hQ] at hp hu h1 h2 h3 ⊢
  rw [← hK] at hk h1 h2 h3 ⊢
  obtain ⟨M, hM⟩ : ∃ M, M = 2 * K + qS N D k := ⟨_, rfl⟩
  have hb : bl K ≤ bl M := bl_mono (by omega)
  rw [← hM] at h1 h2 h3 ⊢
  have r1 : rk p Q = bl Q - p := rfl
  have r2 : rk p M = bl M - p := rfl
  have e1 : (bl M : Int) + (-(k : Int) - 1) = u + p := by omega
  have e2 : (u - (-(k : Int) - 1)).toNat = rk p M := by omega
  refine ⟨e1, ?_, ?_⟩
  · rw [btQ, if_neg (by omega), e2, ct_rQ]; exact h1.symm
  · rw [btA, if_neg (by omega), e2, ct_rA]; exact h2.symm
theorem rf_norm {Q s p b : Nat} (n : Bool) (hs : s ≤ 1) (hb : bl Q = b + 1) (hp : p < b) :
    rQ p 0 n s Q = rQ p 0 n (if Q % 2 = 1 then 1 else s) (Q / 2) ∧ rA p 0 n s Q = rA p 0 n (if Q % 2 = 1 then 1 else s) (Q / 2) := by
  have hq : Q / 2 * 2 ^ 1 + Q % 2 = Q := by rw [Nat.pow_one]; omega
  have hbl : bl (Q / 2) = b := by
    have h1 := bl_low (Q := Q / 2) (t := 1) (low := Q % 2) (by
      refine Nat.pos_of_ne_zero fun h0 => ?_
      have h2 : Q < 2 := by omega
      have h3 : bl Q ≤ 1 := bl_le (k := 1) (by omega)
      omega) (by rw [Nat.pow_one]; omega)
    rw [hq] at h1; omega
  have h := round_more (p := p) (m := 0) (Q := Q / 2) (s := if Q % 2 = 1 then 1 else s) (s' := s) (t := 1) (low := Q % 2) n (by rw [Nat.pow_one]; omega) (by omega) (by split <;> omega)
    (fun h0 => by split at h0 <;> omega) (fun h1 hc => by split at h1 <;> omega)
  rw [hq] at h
  exact ⟨h.2.1, h.2.2⟩
theorem rf_round {m h p b : Nat} (n : Bool) (hh : h ≤ 1) (hb : bl m = b + 1) (hp : p ≤ b) :
    rQ p 0 n h m = m / 2 ^ (b - p) / 2 + (if m / 2 ^ (b - p) % 2 = 1 ∧ ((h = 1 ∨ m % 2 ^ (b - p) ≠ 0) ∨ m / 2 ^ (b - p) / 2 % 2 = 1) then 1 else 0) ∧
    (rA p 0 n h m = 0 ↔ (h = 0 ∧ m % 2 ^ (b - p) = 0) ∧ m / 2 ^ (b - p) % 2 = 0) := by
  have hk : rk p m = (b - p) + 1 := by unfold rk; omega
  obtain ⟨d, hd⟩ : ∃ d, d = b - p := ⟨_, rfl⟩
  rw [← hd] at hk ⊢
  obtain ⟨T, hT⟩ : ∃ T, T = 2 ^ d := ⟨_, rfl⟩
  have hT0 : 0 < T := by rw [hT]; exact Nat.two_pow_pos _
  have hT2 : 2 ^ (d + 1) = T * 2 := by rw [hT, Nat.pow_succ]
  have e1 : m / (T * 2) = m / T / 2 := (Nat.div_div_eq_div_mul _ _ _).symm
  obtain ⟨q, hq⟩ : ∃ q, q = m / T := ⟨_, rfl⟩
  obtain ⟨l, hl⟩ : ∃ l, l = m % T := ⟨_, rfl⟩
  have hlT : l < T := by rw [hl]; exact Nat.mod_lt _ hT0
  have e2 : m % (T * 2) = l + T * (q % 2) := by
    rw [hl, hq, Nat.mod_mul]
  have hL : rL p h m = if q % 2 = 1 then (if l = 0 ∧ h = 0 then 2 else 3) else (if l = 0 ∧ h = 0 then 0 else 1) := by
    unfold rL lef
    rw [hk, hT2, e2]
    rcases (by omega : q % 2 = 0 ∨ q % 2 = 1) with c | c
    · rw [c, Nat.mul_zero, Nat.add_zero, if_neg (show ¬((0 : Nat) = 1) by decide)]
      by_cases hz : l = 0 ∧ h = 0
      · rw [if_pos hz, if_pos hz]
      · rw [if_neg hz, if_neg hz, if_pos (by omega)]
    · rw [c, Nat.mul_one, if_pos rfl, if_neg (by omega), if_neg (by omega)]
      by_cases hz : l = 0 ∧ h = 0
      · rw [if_pos hz, if_pos (by omega)]
      · rw [if_neg hz, if_neg (by omega)]
  have hdv : m / 2 ^ rk p m = q / 2 := by rw [hk, hT2, e1, ← hq]
  refine ⟨?_, ?_⟩
  · unfold rQ rU
    rw [hL, hdv, ← hT, ← hq, ← hl]
    congr 1
    unfold awy
    rcases (by omega : q % 2 = 0 ∨ q % 2 = 1) with c | c
    · rw [if_neg (by omega : ¬ q % 2 = 1), if_neg (by omega : ¬ (q % 2 = 1 ∧ _))]
      rcases (by omega : h = 0 ∨ h = 1) with h0 | h0 <;> by_cases hl0 : l = 0 <;> simp [h0, hl0]
    · rcases (by omega : h = 0 ∨ h = 1) with h0 | h0 <;> by_cases hl0 : l = 0 <;> by_cases ho : q / 2 % 2 = 1 <;> simp [c, h0, hl0, ho]
  · have hz : rA p 0 n h m = 0 ↔ rL p h m = 0 := by
      unfold rA
      constructor
      · intro h0
        by_cases hc : rL p h m = 0
        · exact hc
        · rw [if_neg hc] at h0; split at h0 <;> omega
      · intro h0; rw [if_pos h0]
    rw [hz, hL, ← hT, ← hq, ← hl]
    constructor
    · intro h0
      split at h0
      · split at h0 <;> omega
      · split at h0
        · rename_i c1 c2; exact ⟨⟨c2.2, c2.1⟩, by omega⟩
        · omega
    · rintro ⟨⟨c1, c2⟩, c3⟩
      rw [if_neg (by omega), if_pos ⟨c2, c1⟩]
end Go.Proofs.YtoddjkpckpekcaaGreatDoor
