/-
Texts of this proof, joined: SqA SqB BsA. No condition.
-/
import Derived.Test.YtllhnjpnkmjopaaGreatDoorK12
import Derived.Test.YtllhnjpnkmjopaaGreatDoorK13
import Derived.Test.YtllhnjpnkmjopaaGreatDoorK17
import Derived.Test.YtllhnjpnkmjopaaGreatDoorK18
import Derived.LaidEqlPtr
namespace Go.Proofs.YtllhnjpnkmjopaaGreatDoor
open Go.RowKit

theorem nil_cap0 : ¬ 0 < sCap (.slice none 0 0) := by decide
def Av (z x : Value) : Prop := x = z ∨ (0 < sCap z → sBlk z ≠ sBlk x)
theorem Av.self (z : Value) : Av z z := .inl rfl
theorem Av.nil (x : Value) : Av (.slice none 0 0) x := .inr fun h => absurd h (by decide)
theorem Av.al {z x : Value} (h : Av z x) : Al z x := by
  rcases h with rfl | h
  · exact fun _ _ => rfl
  · exact fun h1 h2 => absurd h2.symm (h h1)
theorem eqlW_same (w : World) (a : Addr) : (binOp .eql 202 (.pointer (some a)) (.pointer (some a))).run Tryz.prog w = .ok (.bool true) w := by
  obtain ⟨j, hj, hz⟩ := info_size sizeWord
  exact run_eql_ptr_same w a Tryz.underlying202 hj
set_option maxRecDepth 100000 in
set_option maxHeartbeats 800000 in
theorem alias_same (x : Value) (xs : List Value) (B : Nat) (w : World) (hx : Own w B 116 x xs) (h0 : 0 < sCap x) :
    Calls Tryz.prog 167 #[x, x] w fun e w' => e = .returned (.bool true) ∧ ∃ m, w' = w.drewN m := by
  have hSx := hx.isS
  obtain ⟨cx, hcx⟩ : ∃ c, c = sCap x := ⟨_, rfl⟩
  have ex : sCap x = cx := hcx.symm
  have hmx := hx.cap
  unfold maxLen at hmx
  rw [ex] at hmx
  have t1' : decide (0 < cx) = true := decide_eq_true (by omega)
  have hS1 : IsS (subS x 0 cx) := subS_isS hSx (Nat.zero_le _) (by omega)
  have hl1 : sLen (subS x 0 cx) = cx := by rw [subS_len hSx]; omega
  have hq := fun (m i : Nat) => eqlW_same (w.drewN m) ⟨sBlk (subS x 0 cx), i, none⟩
  obtain ⟨kx, hkx⟩ : ∃ k, cx = k + 1 := ⟨cx - 1, by omega⟩
  have e1 : (cx : Int) - 1 = (kx : Int) := by omega
  have w1 : IntKind.i64.wrap ((cx : Int) - 1) = (kx : Int) := by rw [IntKind.wrap_i64]; omega
  have k1 : kx < cx := by omega
  clear hx hcx h0 hkx
  go_enter Tryz.func167, Tryz.ntmps167
  go_wp2_with fail
  go_quiet (fail)
  go_wp2
  go_ret
  exact ⟨rfl, _, rfl⟩
structure Opn (w : World) (x : Value) (X : Nat) : Prop where
  ro : RO w x (wds X)
  cap : sCap x ≤ maxLen
theorem Opn.of {w : World} {B X : Nat} {x : Value} (h : Own w B 116 x (cellsW (wds X))) : Opn w x X := ⟨h.ro (wds_all _), h.cap⟩
theorem Opn.drewN {w : World} {x : Value} {X : Nat} (h : Opn w x X) (k : Nat) : Opn (w.drewN k) x X := ⟨h.ro.below (undrewN' (Below.refl _ _)), h.cap⟩
theorem Opn.below {w w' : World} {x : Value} {X : Nat} (h : Opn w x X) (hb : Below w.heap.size w w') : Opn w' x X := ⟨h.ro.below hb, h.cap⟩
theorem Opn.len {w : World} {x : Value} {X : Nat} (h : Opn w x X) : sLen x = nw X := by rw [h.ro.rw.len, wds_length]
theorem Opn.lt {w : World} {x : Value} {X : Nat} (h : Opn w x X) (h0 : 0 < nw X) : sBlk x < w.heap.size := by
  obtain ⟨c, hc⟩ := h.ro.row (by rw [wds_length]; exact h0)
  exact get_lt hc
set_option maxRecDepth 100000 in
set_option maxHeartbeats 800000 in
theorem alias_no (z x : Value) (zs : List Value) (X B : Nat) (w : World) (hz : Own w B 116 z zs) (hx : Opn w x X) (h0 : 0 < nw X) (hne : 0 < sCap z → sBlk z ≠ sBlk x) :
    Calls Tryz.prog 167 #[z, x] w fun e w' => e = .returned (.bool false) ∧ ∃ m, w' = w.drewN m := by
  have hSx := hz.isS
  have hSy := hx.ro.rw.isS
  obtain ⟨cx, hcx⟩ : ∃ c, c = sCap z := ⟨_, rfl⟩
  obtain ⟨cy, hcy⟩ : ∃ c, c = sCap x := ⟨_, rfl⟩
  have ex : sCap z = cx := hcx.symm
  have ey : sCap x = cy := hcy.symm
  have hmx := hz.cap
  have hmy := hx.cap
  unfold maxLen at hmx hmy
  rw [ex] at hmx
  rw [ey] at hmy
  have hle := hSy.le
  have hl := hx.len
  by_cases h1 : cx = 0
  · have t1' : decide (0 < cx) = false := decide_eq_false (by omega)
    clear hz hx hne hcx hcy h1 h0 hle hl
    go_enter Tryz.func167, Tryz.ntmps167
    go_wp2_with fail
    go_quiet (fail)
    go_wp2
    go_ret
    exact ⟨rfl, _, rfl⟩
  have t1' : decide (0 < cx) = true := decide_eq_true (by omega)
  have t2' : decide (0 < cy) = true := decide_eq_true (by omega)
  obtain ⟨rx, hrx⟩ := hz.rowOf (by omega)
  obtain ⟨ry, hry⟩ := hx.ro.row (by rw [wds_length]; exact h0)
  have hS1 : IsS (subS z 0 cx) := subS_isS hSx (Nat.zero_le _) (by omega)
  have hS2 : IsS (subS x 0 cy) := subS_isS hSy (Nat.zero_le _) (by omega)
  have hl1 : sLen (subS z 0 cx) = cx := by rw [subS_len hSx]; omega
  have hl2 : sLen (subS x 0 cy) = cy := by rw [subS_len hSy]; omega
  have hq := fun (m i k : Nat) => eqlW (w.drewN m) (b := sBlk (subS z 0 cx)) (o := i) (c := sBlk (subS x 0 cy)) (q := k) (by rw [subS_blk hSx, subS_blk hSy]; exact hne (by omega)) (by rw [subS_blk hSx]; exact hrx) (by rw [subS_blk hSy]; exact hry)
  obtain ⟨kx, hkx⟩ : ∃ k, cx = k + 1 := ⟨cx - 1, by omega⟩
  obtain ⟨ky, hky⟩ : ∃ k, cy = k + 1 := ⟨cy - 1, by omega⟩
  have e1 : (cx : Int) - 1 = (kx : Int) := by omega
  have e2 : (cy : Int) - 1 = (ky : Int) := by omega
  have w1 : IntKind.i64.wrap ((cx : Int) - 1) = (kx : Int) := by rw [IntKind.wrap_i64]; omega
  have w2 : IntKind.i64.wrap ((cy : Int) - 1) = (ky : Int) := by rw [IntKind.wrap_i64]; omega
  have k1 : kx < cx := by omega
  have k2 : ky < cy := by omega
  clear hz hx hne hcx hcy h0 h1 hrx hry hkx hky hle hl
  go_enter Tryz.func167, Tryz.ntmps167
  go_wp2_with fail
  go_quiet (fail)
  go_wp2
  go_ret
  exact ⟨rfl, _, rfl⟩
theorem alias_av (z x : Value) (zs : List Value) (X B : Nat) (w : World) (hz : Own w B 116 z zs) (hx : Opn w x X) (h0 : 0 < nw X) (h : Av z x) :
    Calls Tryz.prog 167 #[z, x] w fun e w' => ∃ b, e = .returned (.bool b) ∧ (b = false → 0 < sCap z → sBlk z ≠ sBlk x) ∧ ∃ m, w' = w.drewN m := by
  by_cases hne : 0 < sCap z → sBlk z ≠ sBlk x
  · refine (alias_no z x zs X B w hz hx h0 hne).mono ?_
    rintro e w' ⟨h1, h2⟩
    exact ⟨false, h1, fun _ => hne, h2⟩
  · rcases h with rfl | h
    · have hc : 0 < sCap x := by
        have := hx.ro.rw.isS.le
        have := hx.len
        omega
      refine (alias_same x zs B w hz hc).mono ?_
      rintro e w' ⟨h1, h2⟩
      exact ⟨true, h1, (fun hc => by cases hc), h2⟩
    · exact absurd h hne
theorem NatR.ofNil {z r : Value} {N B : Nat} {w w' : World} (h : NatR (.slice none 0 0) r N B w w') : NatR z r N B w w' := by
  refine ⟨h.own, h.below, fun k hk _ => h.fr k hk (fun hc => absurd hc nil_cap0), fun hc => ?_⟩
  rcases h.at' hc with ⟨k1, -⟩ | k1
  · exact absurd k1 nil_cap0
  · exact .inr k1
theorem NatR.ofDrew {z r : Value} {N B m : Nat} {w w' : World} (h : NatR z r N B (w.drewN m) w') : NatR z r N B w w' :=
  ⟨h.own, undrewN h.below, fun k hk hn => h.fr k hk hn, h.at'⟩
theorem NatR.zero (z : Value) (zs : List Value) (B : Nat) (w : World) (hz : Own w B 116 z zs) : NatR z (subS z 0 0) 0 B w w := by
  have hS := hz.isS
  refine ⟨by have := hz.sub (l := 0) (n := 0) (Nat.le_refl _) (Nat.zero_le _); simpa [cellsW, wds_zero] using this, Below.refl _ _, Fr.refl _ _, fun hc => .inl ?_⟩
  rw [subS_blk hS]
  rw [subS_cap hS] at hc
  exact ⟨by omega, rfl⟩
structure SqS (z x y q : Value) (X Y N B : Nat) (w w1 : World) : Prop where
  own : ∃ os : List Value, os.length = N ∧ Own w1 B 116 q os
  ox : RW w1 x (wds X)
  oy : RW w1 y (wds Y)
  nx : sBlk x ≠ sBlk q
  ny : sBlk y ≠ sBlk q
  how : MkP z q N B w w1
structure SqT (z q : Value) (Z N B : Nat) (w w2 : World) : Prop where
  own : Own w2 B 116 q (cellsW (wdsN Z N))
  below : Below B w w2
  fr : Fr z w w2
  sz : IsS z
  ats : ∀ k, 0 < sCap (subS q 0 k) → (0 < sCap z ∧ sBlk (subS q 0 k) = sBlk z) ∨ w.heap.size ≤ sBlk (subS q 0 k)
theorem mk_sq (z x y : Value) (zs : List Value) (X Y N B : Nat) (w : World) (hz : Own w B 116 z zs) (hx : Opn w x X) (hy : Opn w y Y)
    (nx : 0 < sCap z → sBlk z ≠ sBlk x) (ny : 0 < sCap z → sBlk z ≠ sBlk y) (cx : 0 < nw X) (cy : 0 < nw Y) (hN : N ≤ 1000000000) (hN0 : 0 < N) (hB : B ≤ w.heap.size) :
    Calls Tryz.prog 152 #[z, .int .i64 N] w fun e w1 => ∃ q, e = .returned q ∧ IsS q ∧ sLen q = N ∧ Below w.heap.size w w1 ∧ SqS z x y q X Y N B w w1 := by
  refine (make_any z zs N B w hz hN hB).mono ?_
  rintro _ w1 ⟨q, rfl, hm⟩
  obtain ⟨os, ho, hq⟩ := hm.own
  have hb := hm.below
  have hSz := hz.isS
  have hcq : 0 < sCap q := by have := hq.isS.le; rw [hq.len] at this; omega
  have hx1 := hx.lt cx
  have hy1 := hy.lt cy
  refine ⟨q, rfl, hq.isS, by rw [hq.len]; exact ho, hb, ⟨⟨os, ho, hq⟩, (hx.below hb).ro.rw, (hy.below hb).ro.rw, ?_, ?_, hm⟩⟩
  · rcases hm.at_ hSz hcq with ⟨k1, k2⟩ | k1
    · rw [k2]; exact (nx k1).symm
    · omega
  · rcases hm.at_ hSz hcq with ⟨k1, k2⟩ | k1
    · rw [k2]; exact (ny k1).symm
    · omega
theorem SqS.mul {z x y q : Value} {X Y N B : Nat} {w w1 : World} (h : SqS z x y q X Y N B w w1) (hz : IsS z) (hN : N = nw X + nw Y) (hX : 0 < nw X) (hl : N ≤ 1000000000) (hB : B ≤ w.heap.size) :
    Calls Tryz.prog 168 #[q, x, y] w1 fun e w2 => e = .returned (.tuple #[]) ∧ SqT z q (X * Y) N B w w2 := by
  obtain ⟨os, ho, hq⟩ := h.own
  refine (basicMul_any q x y os (wds X) (wds Y) B w1 hq h.ox h.oy (by rw [wds_length, wds_length, ho, hN]) h.nx h.ny (by rw [wds_length]; exact hX) (by omega)).mono ?_
  rintro e w2 ⟨he, h1, h2, h3⟩
  rw [wv_wds, wv_wds, ho] at h1
  refine ⟨he, h1, (h.how.below.mono hB).trans h2, h.how.fr hz (by omega) h2.size h3.only, hz, fun k hc => h.how.atS hz hq.isS hc⟩
theorem SqT.norm {z q : Value} {Z N B : Nat} {w w2 : World} (h : SqT z q Z N B w w2) (hZ : Z < 18446744073709551616 ^ N) (hl : N ≤ 1000000000) :
    Calls Tryz.prog 117 #[q] w2 fun e w' => ∃ r, e = .returned r ∧ IsS r ∧ NatR z r Z B w w' := by
  have hN := norm_any q _ w2 (h.own.rw' wdsN_lt) (by rw [wdsN_length]; exact hl)
  have hT := h.own.takeW wdsN_lt
  rw [wv_wdsN_lt hZ] at hN hT
  refine hN.mono ?_
  rintro e _ ⟨h1, rfl⟩
  exact ⟨_, h1, hT.isS, hT, h.below, h.fr, h.ats _⟩
theorem lt_pow_mul (X Y : Nat) : X * Y < 18446744073709551616 ^ (nw X + nw Y) := by
  rw [Nat.pow_add]; exact Nat.mul_lt_mul'' (lt_nw X) (lt_nw Y)
set_option maxRecDepth 100000 in
set_option maxHeartbeats 3200000 in
theorem nmul_genge {pk : Option Addr} (z x y : Value) (zs : List Value) (X Y B : Nat) (w : World) (hz : Own w B 116 z zs) (hx : Opn w x X) (hy : Opn w y Y)
    (ax : Av z x) (ay : Av z y) (hnm : nw Y ≤ nw X) (hk : nw Y < 40) (hl : nw X ≤ 100000000) (hB : B ≤ w.heap.size) (hK : KarW w) :
    Calls Tryz.prog 144 #[z, .pointer pk, x, y] w fun e w' => ∃ r, e = .returned r ∧ IsS r ∧ NatR z r (X * Y) B w w' := by
  have hSz := hz.isS
  have hSx := hx.ro.rw.isS
  have hSy := hy.ro.rw.isS
  have hSn := IsS.nil
  obtain ⟨m, hm⟩ : ∃ m, m = nw X := ⟨_, rfl⟩
  obtain ⟨n, hn⟩ : ∃ n, n = nw Y := ⟨_, rfl⟩
  have hLx : sLen x = m := by rw [hx.len, hm]
  have hLy : sLen y = n := by rw [hy.len, hn]
  rw [← hm] at hnm hl
  rw [← hn] at hnm hk
  have t1 : decide ((m : Int) < (n : Int)) = false := decide_eq_false (by omega)
  rcases Nat.eq_zero_or_pos n with hn0 | hn0
  · have hY0 : Y = 0 := nw_eq_zero.1 (by omega)
    have Q : Hid (NatR z (subS z 0 0) (X * Y) B w w) := Lib.hid (by rw [hY0, Nat.mul_zero]; exact NatR.zero z zs B w hz)
    have hS0 : IsS (subS z 0 0) := subS_isS hSz (Nat.zero_le _) (Nat.zero_le _)
    subst hn0
    clear hz hx hy hm hn hY0 hK hnm ax ay
    by_cases hm0 : m = 0
    · subst hm0
      go_enter Tryz.func144, Tryz.ntmps144
      go_wp2
      go_ret
      exact ⟨_, rfl, hS0, Q.out⟩
    · have t2 : ((m : Int) == 0) = false := by rw [beq_eq_false_iff_ne]; omega
      have t3 : decide ((m : Int) < 0) = false := decide_eq_false (by omega)
      clear hm0
      go_enter Tryz.func144, Tryz.ntmps144
      go_wp2
      go_ret
      exact ⟨_, rfl, hS0, Q.out⟩
  have t2 : ((m : Int) == 0) = false := by rw [beq_eq_false_iff_ne]; omega
  have t3 : ((n : Int) == 0) = false := by rw [beq_eq_false_iff_ne]; omega
  have hX0 : 0 < X := by rcases Nat.eq_zero_or_pos X with h | h; (rw [h, nw_zero] at hm; omega); exact h
  have hY0 : 0 < Y := by rcases Nat.eq_zero_or_pos Y with h | h; (rw [h, nw_zero] at hn; omega); exact h
  have hcx : 0 < nw X := by omega
  have hcy : 0 < nw Y := by omega
  by_cases hn1 : n = 1
  · have hYl : Y < 18446744073709551616 := by have := lt_nw Y; rw [← hn, hn1, Nat.pow_one] at this; exact this
    have cy := hy.ro.rw.cell 0 (by rw [wds_length, ← hn, hn1]; decide)
    rw [wds_getD, wdg_zero_eq, Nat.mod_eq_of_lt hYl, Nat.add_zero] at cy
    have HC := Lib.hid (mulAddWW_any z x zs X Y 0 B w hz hx.ro ax.al hX0 hY0 hYl (by decide) (by rw [← hm]; exact hl) hB)
    rw [Nat.add_zero] at HC
    subst hn1
    clear hz hx hy hm hn hK hX0 hY0 hnm ax ay
    have t1 : decide ((m : Int) < 1) = false := t1
    go_enter Tryz.func144, Tryz.ntmps144
    go_wp2_with fail
    refine HC.out.mono ?_
    rintro _ w1 ⟨q, rfl, h1⟩
    have Q := Lib.hid h1
    have hSq := h1.own.isS
    clear h1
    go_wp2
    go_ret
    exact ⟨_, rfl, hSq, Q.out⟩
  · have t4 : ((n : Int) == 1) = false := by rw [beq_eq_false_iff_ne]; omega
    obtain ⟨N, hN⟩ : ∃ N, N = m + n := ⟨_, rfl⟩
    have e1 : (m : Int) + (n : Int) = (N : Int) := by omega
    have t5 : decide ((n : Int) < 40) = true := decide_eq_true (by omega)
    have t5' : decide (n < 40) = true := decide_eq_true (by omega)
    have kc : w.cell? ⟨3, 0, none⟩ = some (.int .i64 40) := hK
    have HAX := Lib.hid (alias_av z x zs X B w hz hx hcx ax)
    have HAY := Lib.hid (fun k => alias_av z y zs Y B (w.drewN k) (hz.drewN k) (hy.drewN k) hcy ay)
    have hNb : N ≤ 1000000000 := by omega
    have hNp : 0 < N := by omega
    have HMN : Hid (∀ k, Calls Tryz.prog 152 #[.slice none 0 0, .int .i64 N] (w.drewN k) fun e w1 => ∃ q, e = .returned q ∧ IsS q ∧ sLen q = N ∧ KarW w1 ∧ SqS (.slice none 0 0) x y q X Y N B (w.drewN k) w1) := Lib.hid (fun k => by
      refine (mk_sq (.slice none 0 0) x y [] X Y N B (w.drewN k) (.nil _ _ _) (hx.drewN k) (hy.drewN k) (fun h => absurd h nil_cap0) (fun h => absurd h nil_cap0) hcx hcy hNb hNp hB).mono ?_
      rintro e w1 ⟨q, h1, h2, h3, h4, h5⟩
      exact ⟨q, h1, h2, h3, (hK.drewN k).below h4, h5⟩)
    have HMZ : Hid (∀ k, (0 < sCap z → sBlk z ≠ sBlk x) → (0 < sCap z → sBlk z ≠ sBlk y) → Calls Tryz.prog 152 #[z, .int .i64 N] (w.drewN k) fun e w1 => ∃ q, e = .returned q ∧ IsS q ∧ sLen q = N ∧ KarW w1 ∧ SqS z x y q X Y N B (w.drewN k) w1) := Lib.hid (fun k nx ny => by
      refine (mk_sq z x y zs X Y N B (w.drewN k) (hz.drewN k) (hx.drewN k) (hy.drewN k) nx ny hcx hcy hNb hNp hB).mono ?_
      rintro e w1 ⟨q, h1, h2, h3, h4, h5⟩
      exact ⟨q, h1, h2, h3, (hK.drewN k).below h4, h5⟩)
    have HMU : Hid (∀ z' k q w1, IsS z' → SqS z' x y q X Y N B (w.drewN k) w1 → Calls Tryz.prog 168 #[q, x, y] w1 fun e w2 => e = .returned (.tuple #[]) ∧ SqT z' q (X * Y) N B (w.drewN k) w2) := Lib.hid (fun z' k q w1 hS h => h.mul hS (by rw [hN, hm, hn]) (by omega) hNb hB)
    have HNO : Hid (∀ z' k q w2, SqT z' q (X * Y) N B (w.drewN k) w2 → (z' = z ∨ z' = .slice none 0 0) → Calls Tryz.prog 117 #[q] w2 fun e w' => ∃ r, e = .returned r ∧ IsS r ∧ NatR z r (X * Y) B w w') := Lib.hid (fun z' k q w2 h hz' => by
      refine (h.norm (by rw [hN, hm, hn]; exact lt_pow_mul X Y) hNb).mono ?_
      rintro e w' ⟨r, h1, h2, h3⟩
      rcases hz' with rfl | rfl
      · exact ⟨r, h1, h2, h3.ofDrew⟩
      · exact ⟨r, h1, h2, h3.ofNil.ofDrew⟩)
    clear hz hx hy hm hn hK hn1 hN ax ay hB hcx hcy kc
    go_enter Tryz.func144, Tryz.ntmps144
    go_wp2_with fail
    refine HAX.out.mono ?_
    rintro _ _ ⟨b1, rfl, hb1, k1, rfl⟩
    cases b1 with
    | true =>
      clear hb1
      go_wp2_with fail
      refine (HMN.out k1).mono ?_
      rintro _ w1 ⟨q, rfl, hSq, hLq, kk1, hs⟩
      have kc1 : w1.cell? ⟨3, 0, none⟩ = some (.int .i64 40) := kk1
      have HS := Lib.hid hs
      clear hs
      go_wp2_with fail
      refine (HMU.out (.slice none 0 0) (k1) q w1 hSn HS.out).mono ?_
      rintro _ w2 ⟨rfl, ht⟩
      have HT := Lib.hid ht
      clear ht kc1 kk1
      go_wp2_with fail
      refine (HNO.out (.slice none 0 0) (k1) q w2 HT.out (.inr rfl)).mono ?_
      rintro _ w3 ⟨r, rfl, hSr, hr⟩
      have Q := Lib.hid hr
      clear hr
      go_wp2
      go_ret
      exact ⟨_, rfl, hSr, Q.out⟩
    | false =>
      go_wp2_with fail
      refine (HAY.out k1).mono ?_
      rintro _ _ ⟨b2, rfl, hb2, k2, rfl⟩
      cases b2 with
      | true =>
        clear hb1 hb2
        go_wp2_with fail
        refine (HMN.out (k1 + k2)).mono ?_
        rintro _ w1 ⟨q, rfl, hSq, hLq, kk1, hs⟩
        have kc1 : w1.cell? ⟨3, 0, none⟩ = some (.int .i64 40) := kk1
        have HS := Lib.hid hs
        clear hs
        go_wp2_with fail
        refine (HMU.out (.slice none 0 0) (k1 + k2) q w1 hSn HS.out).mono ?_
        rintro _ w2 ⟨rfl, ht⟩
        have HT := Lib.hid ht
        clear ht kc1 kk1
        go_wp2_with fail
        refine (HNO.out (.slice none 0 0) (k1 + k2) q w2 HT.out (.inr rfl)).mono ?_
        rintro _ w3 ⟨r, rfl, hSr, hr⟩
        have Q := Lib.hid hr
        clear hr
        go_wp2
        go_ret
        exact ⟨_, rfl, hSr, Q.out⟩
      | false =>
        have HNE := Lib.hid (And.intro (hb1 trivial) (hb2 rfl))
        clear hb1 hb2
        go_wp2_with fail
        refine (HMZ.out (k1 + k2) HNE.out.1 HNE.out.2).mono ?_
        rintro _ w1 ⟨q, rfl, hSq, hLq, kk1, hs⟩
        have kc1 : w1.cell? ⟨3, 0, none⟩ = some (.int .i64 40) := kk1
        have HS := Lib.hid hs
        clear hs
        go_wp2_with fail
        refine (HMU.out z (k1 + k2) q w1 hSz HS.out).mono ?_
        rintro _ w2 ⟨rfl, ht⟩
        have HT := Lib.hid ht
        clear ht kc1 kk1
        go_wp2_with fail
        refine (HNO.out z (k1 + k2) q w2 HT.out (.inl rfl)).mono ?_
        rintro _ w3 ⟨r, rfl, hSr, hr⟩
        have Q := Lib.hid hr
        clear hr
        go_wp2
        go_ret
        exact ⟨_, rfl, hSr, Q.out⟩
set_option maxRecDepth 100000 in
theorem nmul_gen {pk : Option Addr} (z x y : Value) (zs : List Value) (X Y B : Nat) (w : World) (hz : Own w B 116 z zs) (hx : Opn w x X) (hy : Opn w y Y)
    (ax : Av z x) (ay : Av z y) (hk : nw X < 40 ∨ nw Y < 40) (hl : nw X ≤ 100000000) (hl2 : nw Y ≤ 100000000) (hB : B ≤ w.heap.size) (hK : KarW w) :
    Calls Tryz.prog 144 #[z, .pointer pk, x, y] w fun e w' => ∃ r, e = .returned r ∧ IsS r ∧ NatR z r (X * Y) B w w' := by
  by_cases h : nw Y ≤ nw X
  · exact nmul_genge z x y zs X Y B w hz hx hy ax ay h (by omega) hl hB hK
  · have HR := Lib.hid (nmul_genge (pk := pk) z y x zs Y X B w hz hy hx ay ax (by omega) (by omega) hl2 hB hK)
    have hSz := hz.isS
    have hSx := hx.ro.rw.isS
    have hSy := hy.ro.rw.isS
    have hLx : sLen x = nw X := hx.len
    have hLy : sLen y = nw Y := hy.len
    obtain ⟨m, hm⟩ : ∃ m, m = nw X := ⟨_, rfl⟩
    obtain ⟨n, hn⟩ : ∃ n, n = nw Y := ⟨_, rfl⟩
    rw [← hm] at hLx h
    rw [← hn] at hLy h
    rw [Nat.mul_comm] at HR
    have t1 : decide ((m : Int) < (n : Int)) = true := decide_eq_true (by omega)
    have t1' : decide (m < n) = true := decide_eq_true (by omega)
    clear hz hx hy hm hn h hK ax ay
    go_enter Tryz.func144, Tryz.ntmps144
    go_wp2_with fail
    refine HR.out.mono ?_
    rintro _ w1 ⟨r, rfl, hSq, h⟩
    have Q := Lib.hid h
    clear h
    go_wp2
    go_ret
    exact ⟨_, rfl, hSq, Q.out⟩
def SqrW (w : World) : Prop := w.cell? ⟨1, 0, none⟩ = some (.int .i64 12) ∧ w.cell? ⟨2, 0, none⟩ = some (.int .i64 80)
theorem SqrW.below {w w' : World} (h : SqrW w) (hb : Below w.heap.size w w') : SqrW w' := by
  have h1 := World.block_lt_of_cell? w _ h.1
  have h2 := World.block_lt_of_cell? w _ h.2
  refine ⟨?_, ?_⟩
  · rw [hb.cell (p := ⟨1, 0, none⟩) h1]; exact h.1
  · rw [hb.cell (p := ⟨2, 0, none⟩) h2]; exact h.2
theorem SqrW.drewN {w : World} (h : SqrW w) (n : Nat) : SqrW (w.drewN n) := h
set_option maxRecDepth 100000 in
set_option maxHeartbeats 3200000 in
theorem nsqr_one {pk : Option Addr} (z x : Value) (zs : List Value) (X B : Nat) (w : World) (hz : Own w B 116 z zs) (hx : Opn w x X) (h1 : nw X = 1) (hB : B ≤ w.heap.size) :
    Calls Tryz.prog 127 #[z, .pointer pk, x] w fun e w' => ∃ r, e = .returned r ∧ IsS r ∧ NatR z r (X * X) B w w' := by
  have hSz := hz.isS
  have hSx := hx.ro.rw.isS
  have hLx : sLen x = 1 := by rw [hx.len, h1]
  have hXl : X < 18446744073709551616 := by have := lt_nw X; rw [h1, Nat.pow_one] at this; exact this
  have hcx := hSx.le
  have cx := hx.ro.rw.cell 0 (by rw [wds_length, h1]; decide)
  rw [wds_getD, wdg_zero_eq, Nat.mod_eq_of_lt hXl, Nat.add_zero] at cx
  have HM := Lib.hid (fun W => mulWW_any X X W hXl hXl)
  have HK := Lib.hid (make_any z zs 2 B w hz (by decide) hB)
  obtain ⟨hi, hhi⟩ : ∃ hi, hi = X * X / 18446744073709551616 := ⟨_, rfl⟩
  obtain ⟨lo, hlo⟩ : ∃ lo, lo = X * X % 18446744073709551616 := ⟨_, rfl⟩
  have hhl : hi < 18446744073709551616 := by rw [hhi, Nat.div_lt_iff_lt_mul (by decide)]; exact Nat.mul_lt_mul'' hXl hXl
  have hll : lo < 18446744073709551616 := by rw [hlo]; exact Nat.mod_lt _ (by decide)
  have hw : wv [lo, hi] = X * X := by
    have := Nat.div_add_mod (X * X) 18446744073709551616
    simp only [wv]
    omega
  rw [← hhi, ← hlo] at HM
  have HF : Hid (∀ q w1, MkP z q 2 B w w1 → IsS q ∧ sLen q = 2 ∧ (∃ u0 u1, w1.cell? ⟨sBlk q, sOff q, none⟩ = some u0 ∧ w1.cell? ⟨sBlk q, sOff q + 1, none⟩ = some u1 ∧ w1.frozen? ⟨sBlk q, sOff q, none⟩ = false ∧ w1.frozen? ⟨sBlk q, sOff q + 1, none⟩ = false) ∧
      Calls Tryz.prog 117 #[q] ((w1.setCell ⟨sBlk q, sOff q + 1, none⟩ (.int .u64 (hi : Int))).setCell ⟨sBlk q, sOff q, none⟩ (.int .u64 (lo : Int))) fun e w' => ∃ r, e = .returned r ∧ IsS r ∧ NatR z r (X * X) B w w') := Lib.hid (fun q w1 hm => by
    obtain ⟨os, ho, hq⟩ := hm.own
    have hSq := hq.isS
    have hLq : sLen q = 2 := by rw [hq.len]; exact ho
    have hcq : 0 < sCap q := by have := hSq.le; omega
    have k1 : 0 < os.length := by omega
    have k2 : 1 < os.length := by omega
    have g1 := hq.set k2 (.int .u64 (hi : Int))
    have g2 := g1.set (i := 0) (by rw [List.length_set]; exact k1) (.int .u64 (lo : Int))
    rw [Nat.add_zero] at g2
    have e : (os.set 1 (.int .u64 (hi : Int))).set 0 (.int .u64 (lo : Int)) = cellsW [lo, hi] := by
      match os, ho with
      | [a, b], _ => rfl
    rw [e] at g2
    have hlt : ∀ d ∈ [lo, hi], d < 18446744073709551616 := by
      intro d hd
      simp at hd
      rcases hd with rfl | rfl <;> assumption
    have hN := norm_any q _ _ (g2.rw' hlt) (by simp)
    have hT := g2.takeW hlt
    rw [hw] at hN hT
    have hBq := (hq.lt hcq).1
    have hb2 : Below B w1 ((w1.setCell ⟨sBlk q, sOff q + 1, none⟩ (.int .u64 (hi : Int))).setCell ⟨sBlk q, sOff q, none⟩ (.int .u64 (lo : Int))) := bset (bset (Below.refl _ _) hBq) hBq
    have ho2 : Only (sBlk q) w1 ((w1.setCell ⟨sBlk q, sOff q + 1, none⟩ (.int .u64 (hi : Int))).setCell ⟨sBlk q, sOff q, none⟩ (.int .u64 (lo : Int))) := fun k _ hne => by
      rw [heap_setCell_other _ _ _ _ (by simpa using hne), heap_setCell_other _ _ _ _ (by simpa using hne)]
    refine ⟨hSq, hLq, ⟨_, _, by have := hq.cell (i := 0) (List.getElem?_eq_getElem k1); rw [Nat.add_zero] at this; exact this, hq.cell (List.getElem?_eq_getElem k2), hq.frozen hcq _, hq.frozen hcq _⟩, hN.mono fun e w' h => ⟨_, h.1, hT.isS, ?_⟩⟩
    rw [← h.2]
    exact ⟨hT, (hm.below.mono hB).trans hb2, hm.fr hSz (by decide) hb2.size ho2, fun hc => hm.atS hSz hSq hc⟩)
  have t1 : ((1 : Int) == 0) = false := rfl
  clear hz hx hhi hlo hw h1 hXl hhl hll hB
  go_enter Tryz.func127, Tryz.ntmps127
  go_wp2_with fail
  refine HK.out.mono ?_
  rintro _ w1 ⟨q, rfl, hm⟩
  obtain ⟨hSq, hLq, ⟨u0, u1, cq0, cq1, f0, f1⟩, hn⟩ := HF.out q w1 hm
  have HN := Lib.hid hn
  have hcq := hSq.le
  clear hm hn
  go_wp2_with fail
  refine (HM.out _).mono ?_
  rintro _ _ ⟨rfl, rfl⟩
  go_wp2_with fail
  refine HN.out.mono ?_
  rintro _ w2 ⟨r, rfl, hSr, hr⟩
  have Q := Lib.hid hr
  clear hr
  go_wp2
  go_ret
  exact ⟨_, rfl, hSr, Q.out⟩
set_option maxRecDepth 100000 in
set_option maxHeartbeats 3200000 in
theorem nsqr_gen {pk : Option Addr} (z x : Value) (zs : List Value) (X B : Nat) (w : World) (hz : Own w B 116 z zs) (hx : Opn w x X)
    (ax : Av z x) (hk : nw X < 12) (hB : B ≤ w.heap.size) (hK : SqrW w) :
    Calls Tryz.prog 127 #[z, .pointer pk, x] w fun e w' => ∃ r, e = .returned r ∧ IsS r ∧ NatR z r (X * X) B w w' := by
  by_cases h1 : nw X = 1
  · exact nsqr_one z x zs X B w hz hx h1 hB
  have hSz := hz.isS
  have hSx := hx.ro.rw.isS
  have hSn := IsS.nil
  obtain ⟨n, hn⟩ : ∃ n, n = nw X := ⟨_, rfl⟩
  have hLx : sLen x = n := by rw [hx.len, hn]
  rw [← hn] at hk h1
  rcases Nat.eq_zero_or_pos n with hn0 | hn0
  · have hX0 : X = 0 := nw_eq_zero.1 (by omega)
    have Q : Hid (NatR z (subS z 0 0) (X * X) B w w) := Lib.hid (by rw [hX0, Nat.mul_zero]; exact NatR.zero z zs B w hz)
    have hS0 : IsS (subS z 0 0) := subS_isS hSz (Nat.zero_le _) (Nat.zero_le _)
    subst hn0
    clear hz hx hn hX0 hK ax h1
    go_enter Tryz.func127, Tryz.ntmps127
    go_wp2
    go_ret
    exact ⟨_, rfl, hS0, Q.out⟩
  have t2 : ((n : Int) == 0) = false := by rw [beq_eq_false_iff_ne]; omega
  have t3 : ((n : Int) == 1) = false := by rw [beq_eq_false_iff_ne]; omega
  have hcx : 0 < nw X := by omega
  obtain ⟨N, hN⟩ : ∃ N, N = n + n := ⟨_, rfl⟩
  have e1 : 2 * (n : Int) = (N : Int) := by omega
  have t5 : decide ((n : Int) < 12) = true := decide_eq_true (by omega)
  have t5' : decide (n < 12) = true := decide_eq_true (by omega)
  have t6 : decide ((n : Int) < 80) = true := decide_eq_true (by omega)
  have t6' : decide (n < 80) = true := decide_eq_true (by omega)
  have HAX := Lib.hid (alias_av z x zs X B w hz hx hcx ax)
  have hNb : N ≤ 1000000000 := by omega
  have hNp : 0 < N := by omega
  have HMN : Hid (∀ k, Calls Tryz.prog 152 #[.slice none 0 0, .int .i64 N] (w.drewN k) fun e w1 => ∃ q, e = .returned q ∧ IsS q ∧ sLen q = N ∧ SqrW w1 ∧ SqS (.slice none 0 0) x x q X X N B (w.drewN k) w1) := Lib.hid (fun k => by
    refine (mk_sq (.slice none 0 0) x x [] X X N B (w.drewN k) (.nil _ _ _) (hx.drewN k) (hx.drewN k) (fun h => absurd h nil_cap0) (fun h => absurd h nil_cap0) hcx hcx hNb hNp hB).mono ?_
    rintro e w1 ⟨q, h1, h2, h3, h4, h5⟩
    exact ⟨q, h1, h2, h3, (hK.drewN k).below h4, h5⟩)
  have HMZ : Hid (∀ k, (0 < sCap z → sBlk z ≠ sBlk x) → Calls Tryz.prog 152 #[z, .int .i64 N] (w.drewN k) fun e w1 => ∃ q, e = .returned q ∧ IsS q ∧ sLen q = N ∧ SqrW w1 ∧ SqS z x x q X X N B (w.drewN k) w1) := Lib.hid (fun k nx => by
    refine (mk_sq z x x zs X X N B (w.drewN k) (hz.drewN k) (hx.drewN k) (hx.drewN k) nx nx hcx hcx hNb hNp hB).mono ?_
    rintro e w1 ⟨q, h1, h2, h3, h4, h5⟩
    exact ⟨q, h1, h2, h3, (hK.drewN k).below h4, h5⟩)
  have HMU : Hid (∀ z' k q w1, IsS z' → SqS z' x x q X X N B (w.drewN k) w1 → Calls Tryz.prog 168 #[q, x, x] w1 fun e w2 => e = .returned (.tuple #[]) ∧ SqT z' q (X * X) N B (w.drewN k) w2) := Lib.hid (fun z' k q w1 hS h => h.mul hS (by rw [hN, hn]) (by omega) hNb hB)
  have HNO : Hid (∀ z' k q w2, SqT z' q (X * X) N B (w.drewN k) w2 → (z' = z ∨ z' = .slice none 0 0) → Calls Tryz.prog 117 #[q] w2 fun e w' => ∃ r, e = .returned r ∧ IsS r ∧ NatR z r (X * X) B w w') := Lib.hid (fun z' k q w2 h hz' => by
    refine (h.norm (by rw [hN, hn]; exact lt_pow_mul X X) hNb).mono ?_
    rintro e w' ⟨r, h1, h2, h3⟩
    rcases hz' with rfl | rfl
    · exact ⟨r, h1, h2, h3.ofDrew⟩
    · exact ⟨r, h1, h2, h3.ofNil.ofDrew⟩)
  clear hz hx hn hK h1 hN ax hB hcx
  go_enter Tryz.func127, Tryz.ntmps127
  go_wp2_with fail
  refine HAX.out.mono ?_
  rintro _ _ ⟨b1, rfl, hb1, k1, rfl⟩
  cases b1 with
  | true =>
    clear hb1
    go_wp2_with fail
    refine (HMN.out k1).mono ?_
    rintro _ w1 ⟨q, rfl, hSq, hLq, kk1, hs⟩
    obtain ⟨kc1, kc2⟩ := kk1
    have HS := Lib.hid hs
    clear hs
    go_wp2_with fail
    refine (HMU.out (.slice none 0 0) k1 q w1 hSn HS.out).mono ?_
    rintro _ w2 ⟨rfl, ht⟩
    have HT := Lib.hid ht
    clear ht kc1 kc2
    go_wp2_with fail
    refine (HNO.out (.slice none 0 0) k1 q w2 HT.out (.inr rfl)).mono ?_
    rintro _ w3 ⟨r, rfl, hSr, hr⟩
    have Q := Lib.hid hr
    clear hr
    go_wp2
    go_ret
    exact ⟨_, rfl, hSr, Q.out⟩
  | false =>
    have HNE := Lib.hid (hb1 rfl)
    clear hb1
    go_wp2_with fail
    refine (HMZ.out k1 HNE.out).mono ?_
    rintro _ w1 ⟨q, rfl, hSq, hLq, kk1, hs⟩
    obtain ⟨kc1, kc2⟩ := kk1
    have HS := Lib.hid hs
    clear hs
    go_wp2_with fail
    refine (HMU.out z k1 q w1 hSz HS.out).mono ?_
    rintro _ w2 ⟨rfl, ht⟩
    have HT := Lib.hid ht
    clear ht kc1 kc2
    go_wp2_with fail
    refine (HNO.out z k1 q w2 HT.out (.inl rfl)).mono ?_
    rintro _ w3 ⟨r, rfl, hSr, hr⟩
    have Q := Lib.hid hr
    clear hr
    go_wp2
    go_ret
    exact ⟨_, rfl, hSr, Q.out⟩
theorem wdsN_append {a b m n : Nat} (h : a < 18446744073709551616 ^ m) : wdsN (a + 18446744073709551616 ^ m * b) (m + n) = wdsN a m ++ wdsN b n := by
  refine (wdsN_eq (os := wdsN a m ++ wdsN b n) (by rw [List.length_append, wdsN_length, wdsN_length]) (fun d hd => ?_) ⟨b / 18446744073709551616 ^ n, ?_⟩).symm
  · rcases List.mem_append.1 hd with h1 | h1 <;> exact wdsN_lt d h1
  · rw [wv_append, wdsN_wv, wdsN_length, wdsN_wv, Nat.mod_eq_of_lt h]
    have h1 := Nat.div_add_mod b (18446744073709551616 ^ n)
    rw [Nat.pow_add, Nat.mul_assoc, Nat.add_assoc, ← Nat.mul_add, Nat.add_comm (b % _)]
    rw [h1]
structure Bq (B s L n : Nat) (z x t : Value) (xs : List Nat) (o0 o : Option (Nat × Value)) (iz Sq T : Nat) (w0 wr : World) : Prop where
  st : StO wr B s L o
  hx : RW wr x xs
  oz : ∃ zs : List Value, zs.length = 2 * n ∧ zs.take (2 * iz) = cellsW (wdsN Sq (2 * iz)) ∧ Own wr B 116 z zs
  ot : Own wr B 116 t (cellsW (wdsN T (2 * n)))
  zt : sBlk z ≠ sBlk t
  xz : sBlk x ≠ sBlk z
  xt : sBlk x ≠ sBlk t
  nz : ¬ SBk s o (sBlk z)
  tS : SBk s o (sBlk t) ∨ w0.heap.size ≤ sBlk t
  bl : Below B w0 wr
  sb : ∀ k, SBk s o k → SBk s o0 k ∨ w0.heap.size ≤ k
  fr : ∀ k, k < w0.heap.size → ¬ SBk s o0 k → k ≠ sBlk z → wr.heap[k]? = w0.heap[k]?
section
variable {B s L n iz Sq T : Nat} {z x t : Value} {xs : List Nat} {o0 o : Option (Nat × Value)} {w0 wr : World}
theorem Bq.fr' (h : Bq B s L n z x t xs o0 o iz Sq T w0 wr) {w' : World} (hn : ∀ k, k < wr.heap.size → k ≠ sBlk t → w'.heap[k]? = wr.heap[k]?) {k : Nat} (hk : k < w0.heap.size) (h1 : ¬ SBk s o0 k) (h2 : k ≠ sBlk z) : w'.heap[k]? = w0.heap[k]? := by
  refine (hn k (Nat.lt_of_lt_of_le hk h.bl.size) fun he => ?_).trans (h.fr k hk h1 h2)
  rcases h.tS with a | a
  · rcases h.sb _ a with b | b
    · exact h1 (he ▸ b)
    · omega
  · omega
theorem Bq.drewN (h : Bq B s L n z x t xs o0 o iz Sq T w0 wr) (k : Nat) : Bq B s L n z x t xs o0 o iz Sq T w0 (wr.drewN k) := by
  obtain ⟨zs, h1, h2, h3⟩ := h.oz
  exact ⟨h.st.below (undrewN' (Below.refl _ _)), h.hx.below (undrewN' (Below.refl _ _)), ⟨zs, h1, h2, h3.drewN k⟩, h.ot.drewN k, h.zt, h.xz, h.xt, h.nz, h.tS, undrewN' h.bl, h.sb, h.fr⟩
theorem Bq.setz (h : Bq B s L n z x t xs o0 o iz Sq T w0 wr) (hi : iz < n) (hs : Sq < 18446744073709551616 ^ (2 * iz)) {lo hi' : Nat} (hlo : lo < 18446744073709551616) (hhi : hi' < 18446744073709551616) :
    (∃ u v, wr.cell? ⟨sBlk z, sOff z + (2 * iz + 1), none⟩ = some u ∧ wr.cell? ⟨sBlk z, sOff z + 2 * iz, none⟩ = some v ∧ wr.frozen? ⟨sBlk z, sOff z + (2 * iz + 1), none⟩ = false ∧ wr.frozen? ⟨sBlk z, sOff z + 2 * iz, none⟩ = false) ∧
    Bq B s L n z x t xs o0 o (iz + 1) (Sq + 18446744073709551616 ^ (2 * iz) * (lo + 18446744073709551616 * hi')) T w0 ((wr.setCell ⟨sBlk z, sOff z + (2 * iz + 1), none⟩ (.int .u64 (hi' : Int))).setCell ⟨sBlk z, sOff z + 2 * iz, none⟩ (.int .u64 (lo : Int))) := by
  obtain ⟨zs, hl, ht, ho⟩ := h.oz
  have k1 : 2 * iz < zs.length := by omega
  have k2 : 2 * iz + 1 < zs.length := by omega
  have hSz := ho.isS
  have hcz : 0 < sCap z := by have := hSz.le; rw [ho.len] at this; omega
  have hBz := (ho.lt hcz).1
  have g1 := ho.set k2 (.int .u64 (hi' : Int))
  have g2 := g1.set (i := 2 * iz) (by rw [List.length_set]; exact k1) (.int .u64 (lo : Int))
  have hon : ∀ k, k ≠ sBlk z → ((wr.setCell ⟨sBlk z, sOff z + (2 * iz + 1), none⟩ (.int .u64 (hi' : Int))).setCell ⟨sBlk z, sOff z + 2 * iz, none⟩ (.int .u64 (lo : Int))).heap[k]? = wr.heap[k]? := fun k hne => by
    rw [heap_setCell_other _ _ _ _ (by simpa using hne), heap_setCell_other _ _ _ _ (by simpa using hne)]
  have hob : Only (sBlk z) wr ((wr.setCell ⟨sBlk z, sOff z + (2 * iz + 1), none⟩ (.int .u64 (hi' : Int))).setCell ⟨sBlk z, sOff z + 2 * iz, none⟩ (.int .u64 (lo : Int))) := fun k _ hne => hon k hne
  refine ⟨⟨_, _, ho.cell (List.getElem?_eq_getElem k2), ho.cell (List.getElem?_eq_getElem k1), ho.frozen hcz _, ho.frozen hcz _⟩, h.st.only hob h.nz, ?_, ⟨_, ?_, ?_, g2⟩, h.ot.same fun _ => hon _ h.zt.symm, h.zt, h.xz, h.xt, h.nz, h.tS, bset (bset h.bl hBz) hBz, h.sb, fun k hk h1 h2 => (hon k h2).trans (h.fr k hk h1 h2)⟩
  · refine ⟨⟨h.hx.isS, h.hx.ri.len, fun j hj => ?_⟩, h.hx.lt⟩
    have hc := h.hx.ri.cell j hj
    exact (World.cell?_of_block (hon _ h.xz)).trans hc
  · rw [List.length_set, List.length_set]; exact hl
  · have e2 : wdsN (lo + 18446744073709551616 * hi') 2 = [lo, hi'] := by
      refine (wdsN_of (os := [lo, hi']) (n := lo + 18446744073709551616 * hi') (L := 2) rfl fun j hj => ?_).symm
      rcases (by omega : j = 0 ∨ j = 1) with rfl | rfl
      · show lo = wdg _ 0
        rw [wdg_zero_eq]; omega
      · show hi' = wdg _ 1
        unfold wdg
        rw [Nat.pow_one]; omega
    rw [show 2 * (iz + 1) = 2 * iz + 2 by omega, wdsN_append hs, e2]
    obtain ⟨a, b, rest, hd⟩ : ∃ a b rest, zs.drop (2 * iz) = a :: b :: rest := by
      match hd : zs.drop (2 * iz) with
      | [] => have := congrArg List.length hd; simp at this; omega
      | [a] => have := congrArg List.length hd; simp at this; omega
      | a :: b :: rest => exact ⟨a, b, rest, rfl⟩
    have hz : zs = cellsW (wdsN Sq (2 * iz)) ++ (a :: b :: rest) := by rw [← ht, ← hd, List.take_append_drop]
    have hlen : (cellsW (wdsN Sq (2 * iz))).length = 2 * iz := by rw [cellsW_length, wdsN_length]
    rw [hz, List.set_append_right _ _ (by rw [hlen]; omega), hlen, show 2 * iz + 1 - 2 * iz = 1 by omega, List.set_append_right _ _ (by rw [hlen]; exact Nat.le_refl _), hlen, Nat.sub_self]
    rw [List.take_append, hlen, List.take_of_length_le (by rw [hlen]; omega), show 2 * iz + 2 - 2 * iz = 2 by omega, ← cellsW_append]
    rfl
theorem Bq.addt (h : Bq B s L n z x t xs o0 o iz Sq T w0 wr) {i d : Nat} (hi0 : 0 < i) (hi : i < n) (hn : xs.length = n) (hn80 : n ≤ 1000) (hd : d < 18446744073709551616) (hT : T < 18446744073709551616 ^ (2 * i)) :
    IsS (subS t i (2 * i)) ∧ IsS (subS x 0 i) ∧ Calls Tryz.prog 201 #[subS t i (2 * i), subS t i (2 * i), subS x 0 i, .int .u64 d, .int .u64 0] wr fun e w' => ∃ c : Nat, e = .returned (.int .u64 c) ∧ (∃ u, w'.cell? ⟨sBlk t, sOff t + 2 * i, none⟩ = some u ∧ w'.frozen? ⟨sBlk t, sOff t + 2 * i, none⟩ = false) ∧
      Bq B s L n z x t xs o0 o iz Sq (T + 18446744073709551616 ^ i * (wv (xs.take i) * d)) w0 (w'.setCell ⟨sBlk t, sOff t + 2 * i, none⟩ (.int .u64 (c : Int))) := by
  have hSt := h.ot.isS
  have hSx := h.hx.isS
  have hct : 2 * n ≤ sCap t := by have := hSt.le; rw [h.ot.len, cellsW_length, wdsN_length] at this; exact this
  have hct0 : 0 < sCap t := by omega
  have hcx : n ≤ sCap x := by have := hSx.le; rw [h.hx.len, hn] at this; exact this
  have hBt := (h.ot.lt hct0).1
  have hlen : (cellsW (wdsN T (2 * n))).length = 2 * n := by rw [cellsW_length, wdsN_length]
  have hsub := h.ot.sub (l := i) (n := 2 * i) (by omega) (by rw [hlen]; omega)
  have hwin := h.ot.win wdsN_lt (l := i) (r := 2 * i) (by omega) (by rw [wdsN_length]; omega)
  have hxw := h.hx.take (n := i) (by omega)
  have hwe : ((wdsN T (2 * n)).take (2 * i)).drop i = wdsN (T / 18446744073709551616 ^ i) i := by
    have := wdsN_sub (Z := T) (L := 2 * n) (k := i) (m := i) (by omega)
    rw [show i + i = 2 * i by omega] at this
    exact this
  rw [hwe] at hwin
  have hsl : (((cellsW (wdsN T (2 * n))).take (2 * i)).drop i).length = i := by rw [List.length_drop, List.length_take, hlen]; omega
  have hbt : sBlk (subS t i (2 * i)) = sBlk t := subS_blk hSt
  have hbx : sBlk (subS x 0 i) = sBlk x := subS_blk hSx
  have hZi : T / 18446744073709551616 ^ i < 18446744073709551616 ^ i := by
    rw [Nat.div_lt_iff_lt_mul (Nat.pow_pos (by decide)), ← Nat.pow_add, show i + i = 2 * i by omega]; exact hT
  have hC := addMulVVWW_any (subS t i (2 * i)) (subS t i (2 * i)) (subS x 0 i) _ (wdsN (T / 18446744073709551616 ^ i) i) (xs.take i) d 0 B wr hsub hwin hxw (by rw [wdsN_length, hsl]) (by rw [hsl, List.length_take]; omega) (fun _ => Nat.le_refl _) (fun he => absurd (by rw [hbx, hbt] at he; exact he) h.xt) hd (by decide) (by rw [hsl]; omega)
  rw [hsl, wdsN_wv, Nat.mod_eq_of_lt hZi, Nat.add_zero] at hC
  refine ⟨subS_isS hSt (by omega) (by omega), subS_isS hSx (Nat.zero_le _) (by omega), hC.mono ?_⟩
  rintro e w' ⟨c, he, ⟨hc, hcS⟩, hv⟩
  obtain ⟨S, hS⟩ : ∃ S, S = T / 18446744073709551616 ^ i + wv (xs.take i) * d := ⟨_, rfl⟩
  rw [← hS] at hcS hv
  have hp := VvP.patch h.ot (l := i) (n := 2 * i) (by omega) (by rw [hlen]; omega) (by rw [show 2 * i - i = i by omega]; exact hv)
  rw [show 2 * i - i = i by omega] at hp
  obtain ⟨p1, p2, p3⟩ := hp
  have hll : ((cellsW (wdsN T (2 * n))).take i ++ (cellsW (wdsN S i) ++ (cellsW (wdsN T (2 * n))).drop (2 * i))).length = 2 * n := by
    rw [List.length_append, List.length_append, cellsW_length, wdsN_length, List.length_take, List.length_drop, hlen]; omega
  have g := p1.set (i := 2 * i) (by rw [hll]; omega) (.int .u64 (c : Int))
  have hbm := bm_words (Z := T) (V := wv (xs.take i) * d) (m := i) (k := i) (n := 2 * n - i) (S := S) (c := c) (by omega) (by rw [show i + i = 2 * i by omega]; exact hT) hS hcS hc
  rw [show i + (2 * n - i) = 2 * n by omega, show i + i = 2 * i by omega] at hbm
  have hcw : ((cellsW (wdsN T (2 * n))).take i ++ (cellsW (wdsN S i) ++ (cellsW (wdsN T (2 * n))).drop (2 * i))).set (2 * i) (.int .u64 (c : Int)) = cellsW (wdsN (T + 18446744073709551616 ^ i * (wv (xs.take i) * d)) (2 * n)) := by
    rw [← hbm]
    simp [cellsW, List.map_set, List.map_take, List.map_drop]
  rw [hcw] at g
  have hon : ∀ k, k < wr.heap.size → k ≠ sBlk t → (w'.setCell ⟨sBlk t, sOff t + 2 * i, none⟩ (.int .u64 (c : Int))).heap[k]? = wr.heap[k]? := fun k hk hne => by
    rw [heap_setCell_other _ _ _ _ (by simpa using hne)]
    exact p3.only k hk hne
  obtain ⟨zs, z1, z2, z3⟩ := h.oz
  have hcz : 0 < sCap z := by have := z3.isS.le; rw [z3.len] at this; omega
  have hf4 : FrB (sBlk t) (sOff t) (sOff t + 2 * n) wr (w'.setCell ⟨sBlk t, sOff t + 2 * i, none⟩ (.int .u64 (c : Int))) := (p3.mono (by omega) (by omega)).set (by omega) (by omega) _
  refine ⟨c, he, ⟨_, p1.cell (List.getElem?_eq_getElem (by rw [hll]; omega)), p1.frozen hct0 _⟩, ⟨h.st.frb hf4 (h.ot.rowOf hct0), ?_, ⟨zs, z1, z2, z3.same fun _ => hon _ (z3.lt hcz).2 h.zt⟩, g, h.zt, h.xz, h.xt, h.nz, h.tS, bset (h.bl.trans p2) hBt, h.sb, fun k hk h1 h2 => h.fr' hon hk h1 h2⟩⟩
  exact hf4.rw h.hx fun hb => absurd hb h.xt
theorem Bq.dbl (h : Bq B s L n z x t xs o0 o iz Sq T w0 wr) (hn2 : 2 ≤ n) (hn80 : n ≤ 1000) (h0 : T % 18446744073709551616 = 0) (hT : T < 18446744073709551616 ^ (2 * n - 1)) :
    IsS (subS t 1 (2 * n - 1)) ∧ Calls Tryz.prog 173 #[subS t 1 (2 * n - 1), subS t 1 (2 * n - 1), .int .u64 1] wr fun e w' => ∃ c : Nat, e = .returned (.int .u64 c) ∧ (∃ u, w'.cell? ⟨sBlk t, sOff t + (2 * n - 1), none⟩ = some u ∧ w'.frozen? ⟨sBlk t, sOff t + (2 * n - 1), none⟩ = false) ∧
      Bq B s L n z x t xs o0 o iz Sq (2 * T) w0 (w'.setCell ⟨sBlk t, sOff t + (2 * n - 1), none⟩ (.int .u64 (c : Int))) := by
  have hSt := h.ot.isS
  have hct : 2 * n ≤ sCap t := by have := hSt.le; rw [h.ot.len, cellsW_length, wdsN_length] at this; exact this
  have hct0 : 0 < sCap t := by omega
  have hBt := (h.ot.lt hct0).1
  have hlen : (cellsW (wdsN T (2 * n))).length = 2 * n := by rw [cellsW_length, wdsN_length]
  obtain ⟨m, hm⟩ : ∃ m, 2 * n - 1 = m + 1 := ⟨2 * n - 2, by omega⟩
  have hm0 : 0 < m := by omega
  rw [hm] at hT ⊢
  obtain ⟨X, hX⟩ : ∃ X, X = T / 18446744073709551616 := ⟨_, rfl⟩
  have hTX : T = 18446744073709551616 * X := by omega
  have hXl : X < 18446744073709551616 ^ m := by
    rw [hX, Nat.div_lt_iff_lt_mul (by decide), ← Nat.pow_succ]; exact hT
  have hsub := h.ot.sub (l := 1) (n := m + 1) (by omega) (by rw [hlen]; omega)
  have hwin := h.ot.win wdsN_lt (l := 1) (r := m + 1) (by omega) (by rw [wdsN_length]; omega)
  have hwe : ((wdsN T (2 * n)).take (m + 1)).drop 1 = wdsN X m := by
    have := wdsN_sub (Z := T) (L := 2 * n) (k := 1) (m := m) (by omega)
    rw [Nat.add_comm 1 m, Nat.pow_one, ← hX] at this
    exact this
  rw [hwe] at hwin
  have hsl : (((cellsW (wdsN T (2 * n))).take (m + 1)).drop 1).length = m := by rw [List.length_drop, List.length_take, hlen]; omega
  have hC := lshVU_gen (subS t 1 (m + 1)) (subS t 1 (m + 1)) _ (wdsN X m) X 1 B wr hsub hwin (by rw [wdsN_wv, Nat.mod_eq_of_lt hXl]) (by rw [wdsN_length, hsl]) (fun _ => Nat.le_refl _) (by rw [wdsN_length]; exact hm0) (by rw [wdsN_length]; omega) (by decide) (by decide)
  rw [wdsN_length] at hC
  refine ⟨subS_isS hSt (by omega) (by omega), hC.mono ?_⟩
  rintro e w' ⟨he, hv⟩
  obtain ⟨c, hc⟩ : ∃ c, c = wdg X (m - 1) / 2 ^ (64 - 1) := ⟨_, rfl⟩
  rw [← hc] at he
  have hp := VvP.patch h.ot (l := 1) (n := m + 1) (by omega) (by rw [hlen]; omega) (by rw [Nat.add_sub_cancel]; exact hv)
  rw [Nat.add_sub_cancel] at hp
  obtain ⟨p1, p2, p3⟩ := hp
  have hll : ((cellsW (wdsN T (2 * n))).take 1 ++ (cellsW (wdsN (X * 2 ^ 1) m) ++ (cellsW (wdsN T (2 * n))).drop (m + 1))).length = 2 * n := by
    rw [List.length_append, List.length_append, cellsW_length, wdsN_length, List.length_take, List.length_drop, hlen]; omega
  have g := p1.set (i := m + 1) (by rw [hll]; omega) (.int .u64 (c : Int))
  have hcc : c = wdg (X * 2 ^ 1) m := by
    have h1 := div_shl X (m - 1) (s := 1) (by decide)
    rw [show m - 1 + 1 = m by omega, Nat.div_eq_of_lt hXl, Nat.zero_mul, Nat.add_zero, ← hc] at h1
    unfold wdg
    rw [h1, Nat.mod_eq_of_lt]
    rw [hc]
    exact Nat.lt_of_le_of_lt (Nat.div_le_self _ _) (wdg_lt _ _)
  have hcw : ((cellsW (wdsN T (2 * n))).take 1 ++ (cellsW (wdsN (X * 2 ^ 1) m) ++ (cellsW (wdsN T (2 * n))).drop (m + 1))).set (m + 1) (.int .u64 (c : Int)) = cellsW (wdsN (2 * T) (2 * n)) := by
    have e1 : wdsN (2 * T) (2 * n) = wdsN 0 1 ++ (wdsN (X * 2 ^ 1) m ++ [c]) := by
      rw [hcc, ← wdsN_succ, ← wdsN_append (by decide)]
      rw [hTX, Nat.zero_add, Nat.pow_one, Nat.pow_one, show 1 + (m + 1) = 2 * n by omega]
      congr 1
      omega
    have e2 : (wdsN T (2 * n)).take 1 = wdsN 0 1 := by
      rw [wdsN_take (by omega)]
      show [wdg T 0] = [wdg 0 0]
      rw [wdg_zero_eq, wdg_zero_eq, h0]
    obtain ⟨u, hu⟩ : ∃ u, (cellsW (wdsN T (2 * n))).drop (m + 1) = [u] := List.length_eq_one_iff.1 (by rw [List.length_drop, hlen]; omega)
    have e3 : (cellsW (wdsN T (2 * n))).take 1 = cellsW (wdsN 0 1) := by rw [← e2]; simp [cellsW, List.map_take]
    rw [hu, e3, e1, ← cellsW_append, ← cellsW_append]
    have l1 : (cellsW (wdsN 0 1)).length = 1 := by rw [cellsW_length, wdsN_length]
    have l2 : (cellsW (wdsN (X * 2 ^ 1) m)).length = m := by rw [cellsW_length, wdsN_length]
    rw [List.set_append_right _ _ (by rw [l1]; omega), l1, Nat.add_sub_cancel, List.set_append_right _ _ (by rw [l2]; exact Nat.le_refl _), l2, Nat.sub_self]
    rfl
  rw [hcw] at g
  have hon : ∀ k, k < wr.heap.size → k ≠ sBlk t → (w'.setCell ⟨sBlk t, sOff t + (m + 1), none⟩ (.int .u64 (c : Int))).heap[k]? = wr.heap[k]? := fun k hk hne => by
    rw [heap_setCell_other _ _ _ _ (by simpa using hne)]
    exact p3.only k hk hne
  obtain ⟨zs, z1, z2, z3⟩ := h.oz
  have hcz : 0 < sCap z := by have := z3.isS.le; rw [z3.len] at this; omega
  have hf4 : FrB (sBlk t) (sOff t) (sOff t + 2 * n) wr (w'.setCell ⟨sBlk t, sOff t + (m + 1), none⟩ (.int .u64 (c : Int))) := (p3.mono (by omega) (by omega)).set (by omega) (by omega) _
  refine ⟨c, he, ⟨_, p1.cell (List.getElem?_eq_getElem (by rw [hll]; omega)), p1.frozen hct0 _⟩, ⟨h.st.frb hf4 (h.ot.rowOf hct0), ?_, ⟨zs, z1, z2, z3.same fun _ => hon _ (z3.lt hcz).2 h.zt⟩, g, h.zt, h.xz, h.xt, h.nz, h.tS, bset (h.bl.trans p2) hBt, h.sb, fun k hk h1 h2 => h.fr' hon hk h1 h2⟩⟩
  exact hf4.rw h.hx fun hb => absurd hb h.xt
theorem Bq.add (h : Bq B s L n z x t xs o0 o n Sq T w0 wr) (hn : 0 < n) (hn80 : n ≤ 1000) (hS : Sq + T < 18446744073709551616 ^ (2 * n)) :
    Calls Tryz.prog 187 #[z, z, t] wr fun e w' => ∃ c : Nat, e = .returned (.int .u64 c) ∧ Own w' B 116 z (cellsW (wdsN (Sq + T) (2 * n))) ∧ StO w' B s L o ∧ Below B w0 w' ∧ (∀ k, k < w0.heap.size → ¬ SBk s o0 k → k ≠ sBlk z → w'.heap[k]? = w0.heap[k]?) := by
  obtain ⟨zs, z1, z2, z3⟩ := h.oz
  rw [List.take_of_length_le (by omega)] at z2
  subst z2
  have hcz : 0 < sCap z := by have := z3.isS.le; rw [z3.len, cellsW_length, wdsN_length] at this; omega
  refine (addVV_any z z t _ (wdsN Sq (2 * n)) (wdsN T (2 * n)) B wr z3 (z3.rw' wdsN_lt) (h.ot.rw' wdsN_lt) (by rw [cellsW_length]) (by rw [cellsW_length, wdsN_length, wdsN_length]) (fun _ => Nat.le_refl _) (fun he => absurd he.symm h.zt) (by rw [cellsW_length, wdsN_length]; omega)).mono ?_
  rintro e w' ⟨c, he, -, hv⟩
  rw [cellsW_length, wdsN_length, wdsN_wv, wdsN_wv, Nat.mod_eq_of_lt (by omega), Nat.mod_eq_of_lt (by omega)] at hv
  exact ⟨c, he, hv.1, h.st.only hv.2.2.only h.nz, h.bl.trans hv.2.1, fun k hk h1 h2 => (hv.2.2.only k (Nat.lt_of_lt_of_le hk h.bl.size) h2).trans (h.fr k hk h1 h2)⟩
end
end Go.Proofs.YtllhnjpnkmjopaaGreatDoor
