/-
Texts of this proof, joined: VvD VvE VvF VvG MuA. No condition.
-/
import Derived.Test.YtllhnjpnkmjopaaGreatDoorK06
import Derived.Test.YtllhnjpnkmjopaaGreatDoorK11
namespace Go.Proofs.YtllhnjpnkmjopaaGreatDoor
open Go.RowKit

def Fr (z : Value) (w w' : World) : Prop := ∀ k, k < w.heap.size → (0 < sCap z → k ≠ sBlk z) → w'.heap[k]? = w.heap[k]?
theorem Fr.refl (z : Value) (w : World) : Fr z w w := fun _ _ _ => rfl
theorem Fr.ofBelow {z : Value} {w w' : World} (h : Below w.heap.size w w') : Fr z w w' := fun k hk _ => h.block k hk
theorem Fr.trans {z : Value} {w1 w2 w3 : World} (h : Fr z w1 w2) (hs : w1.heap.size ≤ w2.heap.size) (k : Fr z w2 w3) : Fr z w1 w3 := fun i hi hn => (k i (by omega) hn).trans (h i hi hn)
theorem Fr.row {z : Value} {w w' : World} (h : Fr z w w') {k : Nat} {o : Obj} (hr : w.heap[k]? = some o) (hn : 0 < sCap z → k ≠ sBlk z) : w'.heap[k]? = some o := (h k (get_lt hr) hn).trans hr
def Al (z x : Value) : Prop := 0 < sCap z → sBlk x = sBlk z → sOff x = sOff z
theorem Al.nil (x : Value) : Al (.slice none 0 0) x := fun h => absurd h (by decide)
structure MkP (z r : Value) (n B : Nat) (w w' : World) : Prop where
  own : ∃ ys : List Value, ys.length = n ∧ Own w' B 116 r ys
  how : (w' = w ∧ r = subS z 0 n ∧ n ≤ sCap z) ∨ (w.heap.size ≤ sBlk r ∧ sOff r = 0 ∧ Below w.heap.size w w')
set_option maxRecDepth 100000 in
theorem make_any (z : Value) (zs : List Value) (n B : Nat) (w : World) (hz : Own w B 116 z zs) (hn : n ≤ 1000000000) (hB : B ≤ w.heap.size) :
    Calls Tryz.prog 152 #[z, .int .i64 n] w fun e w' => ∃ r, e = .returned r ∧ MkP z r n B w w' := by
  have hS := hz.isS
  by_cases hc : n ≤ sCap z
  · have t1 : decide ((n : Int) ≤ (sCap z : Int)) = true := decide_eq_true (by omega)
    have t1' : decide (n ≤ sCap z) = true := decide_eq_true hc
    obtain ⟨ys, h1, h2⟩ := hz.grow hc
    have Q : Hid (MkP z (subS z 0 n) n B w w) := Lib.hid ⟨⟨ys, h1, h2⟩, .inl ⟨rfl, rfl, hc⟩⟩
    have hS2 := h2.isS
    clear hz h1 h2
    go_enter Tryz.func152, Tryz.ntmps152
    go_wp2
    go_ret
    exact ⟨_, rfl, Q.out⟩
  · have t1 : decide ((n : Int) ≤ (sCap z : Int)) = false := decide_eq_false (by omega)
    have t1' : decide (n ≤ sCap z) = false := decide_eq_false hc
    have hn0 : 0 < n := by omega
    have HB := Lib.hid hB
    clear hz hc hB
    by_cases h1 : n = 1
    · subst h1
      have t2 : decide ((1 : Int) ≤ (sCap z : Int)) = false := t1
      go_enter Tryz.func152, Tryz.ntmps152
      go_wp2_with (at_make; refine wpList_make_O rfl _ _ _ rfl elemT .i64 .i64 _ _ rfl rfl w.heap.size ?c1 ?c2 ?c3 ?c4 ?c5 ?_)
      case c1 => omega
      case c2 => omega
      case c3 => omega
      case c4 => omega
      case c5 => exact Nat.le_refl _
      rintro v w1 rfl ho hb hz
      have Q := Lib.hid (⟨⟨_, by simp, ho.mono HB.out⟩, .inr ⟨by simp, by simp, hb⟩⟩ : MkP z (.slice (some ⟨w.heap.size, 0, none⟩) 1 1) 1 B w w1)
      clear ho hb
      go_wp2
      go_ret
      exact ⟨_, rfl, Q.out⟩
    · have t2 : ((n : Int) == 1) = false := by rw [beq_eq_false_iff_ne]; omega
      clear h1
      go_enter Tryz.func152, Tryz.ntmps152
      go_wp2_with (at_make; refine wpList_make_O rfl _ _ _ rfl elemT .i64 .i64 _ _ rfl rfl w.heap.size ?c1 ?c2 ?c3 ?c4 ?c5 ?_)
      case c1 => omega
      case c2 => omega
      case c3 => omega
      case c4 => omega
      case c5 => exact Nat.le_refl _
      rintro v w1 rfl ho hb hz
      have Q := Lib.hid (⟨⟨_, by simp, ho.mono HB.out⟩, .inr ⟨by simp, by simp, hb⟩⟩ : MkP z (.slice (some ⟨w.heap.size, 0, none⟩) n ((n : Int) + 4).toNat) n B w w1)
      clear ho hb
      go_wp2
      go_ret
      exact ⟨.slice (some ⟨w.heap.size, 0, none⟩) n ((n : Int) + 4).toNat, rfl, Q.out⟩
theorem MkP.below {z r : Value} {n B : Nat} {w w' : World} (h : MkP z r n B w w') : Below w.heap.size w w' := by
  rcases h.how with ⟨rfl, -⟩ | ⟨-, -, hb⟩
  · exact Below.refl _ _
  · exact hb
theorem MkP.al {z r x : Value} {n B : Nat} {xs : List Nat} {w w' : World} (h : MkP z r n B w w') (hz : IsS z) (hn : 0 < n) (ha : Al z x) (hx : RW w x xs) (hl : 0 < xs.length) : sBlk x = sBlk r → sOff x = sOff r := by
  rcases h.how with ⟨-, rfl, hc⟩ | ⟨h1, h2, -⟩
  · rw [subS_blk hz, subS_off0 hz]; exact ha (by omega)
  · intro he
    have := hx.ri.lt (by rw [ints_length]; exact hl)
    omega
theorem MkP.fr {z r : Value} {n B : Nat} {w w1 w2 : World} (h : MkP z r n B w w1) (hz : IsS z) (hn : 0 < n) (_hs : w1.heap.size ≤ w2.heap.size) (ho : Only (sBlk r) w1 w2) : Fr z w w2 := by
  intro k hk hne
  rcases h.how with ⟨rfl, rfl, hc⟩ | ⟨h1, h2, hb⟩
  · exact ho k hk (by rw [subS_blk hz]; exact hne (by omega))
  · exact (ho k (Nat.lt_of_lt_of_le hk hb.size) (by omega)).trans (hb.block k hk)
theorem FrB.ro {b lo hi : Nat} {w w' : World} {v : Value} {ws : List Nat} (h : FrB b lo hi w w') (hv : RO w v ws) (hn : sBlk v = b → sOff v + ws.length ≤ lo ∨ hi ≤ sOff v) : RO w' v ws := by
  refine ⟨h.rw hv.rw hn, fun hl => ?_⟩
  obtain ⟨c, hr⟩ := hv.row hl
  by_cases hb : sBlk v = b
  · obtain ⟨c', h1, -, -⟩ := h.row c _ (0, 0) (hb ▸ hr)
    exact ⟨c', hb ▸ h1⟩
  · exact ⟨c, (h.only _ (get_lt hr) hb).trans hr⟩
theorem RO.away {w : World} {x : Value} {xs : List Nat} {b i T : Nat} {cs : Array Value} {u : Value} (h : RO w x xs) (hr : w.heap[b]? = some (.cells cs T (0, 0))) (hT : T ≠ 116) : RO (w.setCell ⟨b, i, none⟩ u) x xs := by
  have hne : 0 < xs.length → sBlk x ≠ b := fun hl he => by
    obtain ⟨c, h1⟩ := h.row hl
    rw [he, hr] at h1
    exact hT (by injection (Option.some.inj h1))
  refine ⟨⟨⟨h.rw.isS, h.rw.ri.len, fun j hj => ?_⟩, h.rw.lt⟩, fun hl => ?_⟩
  · rw [cell_other (by simpa using fun he => hne (by rw [ints_length] at hj; omega) he.symm)]
    exact h.rw.ri.cell j hj
  · obtain ⟨c, h1⟩ := h.row hl
    exact ⟨c, (heap_setCell_other _ _ _ _ (by simpa using hne hl)).trans h1⟩
theorem RO.fr {w w' : World} {z x : Value} {xs : List Nat} (h : RO w x xs) (hf : Fr z w w') (hne : 0 < sCap z → sBlk x ≠ sBlk z) : RO w' x xs := by
  refine ⟨⟨⟨h.rw.isS, h.rw.ri.len, fun j hj => ?_⟩, h.rw.lt⟩, fun hl => ?_⟩
  · have hc := h.rw.ri.cell j hj
    exact (World.cell?_of_block (hf _ (World.block_lt_of_cell? w _ hc) hne)).trans hc
  · obtain ⟨c, h1⟩ := h.row hl
    exact ⟨c, hf.row h1 hne⟩
theorem MkP.at_ {z r : Value} {n B : Nat} {w w' : World} (h : MkP z r n B w w') (hz : IsS z) (hc : 0 < sCap r) : (0 < sCap z ∧ sBlk r = sBlk z) ∨ w.heap.size ≤ sBlk r := by
  rcases h.how with ⟨-, rfl, hn⟩ | ⟨h1, -, -⟩
  · rw [subS_cap hz, Nat.sub_zero] at hc
    exact .inl ⟨hc, subS_blk hz⟩
  · exact .inr h1
theorem MkP.atS {z r : Value} {n B k : Nat} {w w' : World} (h : MkP z r n B w w') (hz : IsS z) (hr : IsS r) (hc : 0 < sCap (subS r 0 k)) : (0 < sCap z ∧ sBlk (subS r 0 k) = sBlk z) ∨ w.heap.size ≤ sBlk (subS r 0 k) := by
  rw [subS_cap hr, Nat.sub_zero] at hc
  rw [subS_blk hr]
  exact h.at_ hz hc
set_option maxRecDepth 100000 in
theorem set_at (z x : Value) (zs : List Value) (xs : List Nat) (B : Nat) (w : World) (hz : Own w B 116 z zs) (hx : RW w x xs) (hl : xs.length ≤ 1000000000) (hB : B ≤ w.heap.size) :
    Calls Tryz.prog 135 #[z, x] w fun e w' => ∃ r, e = .returned r ∧ Own w' B 116 r (cellsW xs) ∧ Below B w w' ∧ Fr z w w' ∧ (0 < sCap r → (0 < sCap z ∧ sBlk r = sBlk z) ∨ w.heap.size ≤ sBlk r) := by
  have hS := hx.isS
  have hL := hx.len
  have hSz := hz.isS
  have HX := Lib.hid hx
  have HZ := Lib.hid hz
  have HB := Lib.hid hB
  clear hx hz hB
  go_enter Tryz.func135, Tryz.ntmps135
  go_wp2_with fail
  refine (make_any z zs xs.length B w HZ.out hl HB.out).mono ?_
  rintro _ w1 ⟨r, rfl, hm⟩
  obtain ⟨ys, hy, ho⟩ := hm.own
  have hSr := ho.isS
  have hLr : sLen r = xs.length := by rw [ho.len, hy]
  have HO := Lib.hid ho
  have HM := Lib.hid hm
  have HY := Lib.hid hy
  clear ho hm hy
  go_wp2_with (refine wpList_copy_W (o := ⟨some 11, _, _, _, _, _⟩) rfl (.tmp 9) (.tmp 10) 108 108 rfl 116 Tryz.underlying108 sizeW _ _ rfl rfl B ys HO.out (cellsW xs) ?d1 hS ?d2 ?d3 (cellsW_one xs) ?_)
  case d1 => rw [cellsW_length, HY.out]
  case d2 => rw [cellsW_length]; exact hL
  case d3 => exact (HX.out.below HM.out.below).at
  intro w2 ho2 hb2 hf2 hw2
  have hfr2 : Fr z w w2 := by
    rcases Nat.eq_zero_or_pos xs.length with h0 | h0
    · intro k hk hne
      rw [hw2 (by rw [show xs = [] from List.eq_nil_of_length_eq_zero h0]; rfl)]
      exact HM.out.below.block k hk
    · exact HM.out.fr hSz h0 hb2.size hf2.only
  have Q : Hid (Own w2 B 116 r (cellsW xs) ∧ Below B w w2 ∧ Fr z w w2 ∧ (0 < sCap r → (0 < sCap z ∧ sBlk r = sBlk z) ∨ w.heap.size ≤ sBlk r)) := Lib.hid ⟨ho2, (HM.out.below.mono HB.out).trans hb2, hfr2, fun hc => HM.out.at_ hSz hc⟩
  clear ho2 hb2 hf2 hw2 hfr2
  go_wp2
  go_ret
  exact ⟨_, rfl, Q.out⟩
structure NatR (z r : Value) (N B : Nat) (w w' : World) : Prop where
  own : Own w' B 116 r (cellsW (wds N))
  below : Below B w w'
  fr : Fr z w w'
  at' : 0 < sCap r → (0 < sCap z ∧ sBlk r = sBlk z) ∨ w.heap.size ≤ sBlk r
theorem sub0 {v : Value} {n : Nat} (hS : IsS v) : sBlk (subS v 0 n) = sBlk v ∧ sOff (subS v 0 n) = sOff v := ⟨subS_blk hS, subS_off0 hS⟩
theorem wv_wdsN_lt {Z n : Nat} (h : Z < 18446744073709551616 ^ n) : wv (wdsN Z n) = Z := by rw [wdsN_wv, Nat.mod_eq_of_lt h]
set_option maxRecDepth 100000 in
set_option maxHeartbeats 3200000 in
theorem nadd_core (z x y : Value) (zs : List Value) (xs ys : List Nat) (B : Nat) (w : World) (hz : Own w B 116 z zs) (hx : RO w x xs) (hy : RW w y ys) (ax : Al z x) (ay : Al z y) (hn0 : 0 < ys.length) (hnm : ys.length ≤ xs.length) (hl : xs.length ≤ 100000000) (hB : B ≤ w.heap.size) :
    Calls Tryz.prog 158 #[z, x, y] w fun e w' => ∃ r, e = .returned r ∧ NatR z r (wv xs + wv ys) B w w' := by
  have hS := hz.isS
  have hSx := hx.rw.isS
  have hSy := hy.isS
  obtain ⟨m, hm⟩ : ∃ m, m = xs.length := ⟨_, rfl⟩
  obtain ⟨n, hn⟩ : ∃ n, n = ys.length := ⟨_, rfl⟩
  have hLx : sLen x = m := by rw [hx.rw.len, hm]
  have hLy : sLen y = n := by rw [hy.len, hn]
  have hcx : m ≤ sCap x := by have := hSx.le; omega
  have hcy : n ≤ sCap y := by have := hSy.le; omega
  rw [← hn] at hn0 hnm
  rw [← hm] at hnm hl
  have t1 : decide ((m : Int) < (n : Int)) = false := decide_eq_false (by omega)
  have t2 : ((m : Int) == 0) = false := by rw [beq_eq_false_iff_ne]; omega
  have t3 : ((n : Int) == 0) = false := by rw [beq_eq_false_iff_ne]; omega
  have e1 : (m : Int) + 1 = ((m + 1 : Nat) : Int) := by omega
  obtain ⟨m1, hm1⟩ : ∃ m1, m1 = m + 1 := ⟨_, rfl⟩
  rw [← hm1] at e1
  have HM := Lib.hid hm
  have HN := Lib.hid hn
  have HZ := Lib.hid hz
  have HX := Lib.hid hx
  have HY := Lib.hid hy
  have HAX := Lib.hid ax
  have HAY := Lib.hid ay
  have HB := Lib.hid hB
  have HM1 := Lib.hid hm1
  have hm1b : m1 ≤ 1000000000 := by omega
  have hm1p : 0 < m1 := by omega
  have hmm1 : m < m1 := by omega
  have hnm1 : n ≤ m1 := by omega
  clear hz hx hy ax ay hB hm hn hm1
  go_enter Tryz.func158, Tryz.ntmps158
  go_wp2_with fail
  refine (make_any z zs m1 B w HZ.out hm1b HB.out).mono ?_
  rintro _ w1 ⟨r, rfl, hmk⟩
  obtain ⟨os, hos, hor⟩ := hmk.own
  have hSr := hor.isS
  have hLr : sLen r = m1 := by rw [hor.len, hos]
  have hcr : m1 ≤ sCap r := by have := hSr.le; omega
  have hcr0 : 0 < sCap r := by omega
  have hBr := (hor.lt hcr0).1
  have hX1 := HX.out.below hmk.below
  have hY1 := HY.out.below hmk.below
  have aX := hmk.al hS hm1p HAX.out HX.out.rw (by rw [← HM.out]; omega)
  have aY := hmk.al hS hm1p HAY.out HY.out (by rw [← HN.out]; exact hn0)
  have hSr0 : IsS (subS r 0 n) := subS_isS hSr (Nat.zero_le _) (by omega)
  have hSx0 : IsS (subS x 0 n) := subS_isS hSx (Nat.zero_le _) (by omega)
  have hSy0 : IsS (subS y 0 n) := subS_isS hSy (Nat.zero_le _) (by omega)
  have hsub := hor.sub (l := 0) (n := n) (Nat.zero_le _) (by omega)
  have hsl : ((os.take n).drop 0).length = n := by simp; omega
  have hxt := hX1.rw.take (n := n) (by rw [← HM.out]; exact hnm)
  have hyt := hY1.take (n := n) (by rw [← HN.out]; exact Nat.le_refl _)
  rw [List.take_of_length_le (by rw [← HN.out]; exact Nat.le_refl _)] at hyt
  have HADD : Hid (∀ k, Calls Tryz.prog 187 #[subS r 0 n, subS x 0 n, subS y 0 n] (w1.drewN k) fun e w' => ∃ c : Nat, e = .returned (.int .u64 c) ∧ (c ≤ 1 ∧ wv (xs.take n) + wv ys = wv (wdsN (wv (xs.take n) + wv ys) n) + 18446744073709551616 ^ n * c) ∧ VvP (subS r 0 n) n B (wv (xs.take n) + wv ys) w1 w') := Lib.hid (fun k => by
    have := addVV_any (subS r 0 n) (subS x 0 n) (subS y 0 n) ((os.take n).drop 0) (xs.take n) ys B (w1.drewN k) (hsub.drewN k) (hxt.below (undrewN' (Below.refl _ _))) (hyt.below (undrewN' (Below.refl _ _))) (by rw [hsl, List.length_take, ← HM.out]; omega) (by rw [hsl, ← HN.out]) (by rw [(sub0 hSx).1, (sub0 hSr).1, (sub0 hSx).2, (sub0 hSr).2]; intro h; rw [aX h]; exact Nat.le_refl _)
      (by rw [(sub0 hSy).1, (sub0 hSr).1, (sub0 hSy).2, (sub0 hSr).2]; intro h; rw [aY h]; exact Nat.le_refl _) (by rw [hsl]; omega)
    rw [hsl] at this
    refine this.mono ?_
    rintro _ w' ⟨c, rfl, h1, h2, h3, h4⟩
    exact ⟨c, rfl, h1, h2, undrewN h3, h4.undrewN⟩)
  have HOR := Lib.hid hor
  have HOS := Lib.hid hos
  have HMK := Lib.hid hmk
  have HX1 := Lib.hid hX1
  have HAXR := Lib.hid aX
  clear hor hos hmk hX1 hY1 aX aY hsub hsl hxt hyt
  go_wp2_with fail
  (refine wp_region_hoist 9 (by kernel_rfl) (by kernel_rfl) ⟨fun _ _ _ h => (by first | exact (hQp _ _ _ h).elim | cases h.2.1 | (obtain ⟨_, h3, _⟩ := h.2; cases h3)), fun _ _ h => (by first | exact (hQo _ _ h).elim | cases h.1 | (obtain ⟨_, h3, _⟩ := h; cases h3))⟩ ?_; simp only [List.take_succ_cons, List.take_zero, List.drop_succ_cons, List.drop_zero]; (repeat (go_big_quiet_step (fail))); refine wpQuiet_nil ?_; rintro _ ⟨nq, rfl⟩)
  go_wp2_with fail
  refine (HADD.out _).mono ?_
  rintro _ w2 ⟨c, rfl, ⟨hc1, hcs⟩, hvp⟩
  have hpt := VvP.patch (l := 0) (n := n) HOR.out (Nat.zero_le _) (by rw [HOS.out]; exact hnm1) hvp
  rw [List.take_zero, List.nil_append, Nat.sub_zero] at hpt
  have HCS := Lib.hid hcs
  have HPT := Lib.hid hpt
  clear hcs hpt hvp
  by_cases hmn : n < m
  · have t4 : decide ((n : Int) < (m : Int)) = true := decide_eq_true (by omega)
    have t4' : decide (n < m) = true := decide_eq_true hmn
    obtain ⟨ho2, hb2, hf2⟩ := HPT.out
    have hSr1 : IsS (subS r n m) := subS_isS hSr hnm (by omega)
    have hSx1 : IsS (subS x n m) := subS_isS hSx hnm hcx
    have hsub := ho2.sub (l := n) (n := m) hnm (by simp [cellsW_length, wdsN_length]; rw [HOS.out]; omega)
    have hsl : (((cellsW (wdsN (wv (xs.take n) + wv ys) n) ++ os.drop n).take m).drop n).length = m - n := by simp [cellsW_length, wdsN_length]; rw [HOS.out]; omega
    have hxd : RO w2 (subS x n m) (xs.drop n) := by
      have h1 := HX1.out.drop (n := n) (by rw [← HM.out]; exact hnm)
      rw [← HM.out] at h1
      refine hf2.ro h1 fun hb => .inr ?_
      rw [subS_blk hSx] at hb
      rw [subS_off hSx (by omega), HAXR.out hb]; omega
    have HADW : Hid (∀ k, Calls Tryz.prog 154 #[subS r n m, subS x n m, .int .u64 c] (w2.drewN k) fun e w' => ∃ d : Nat, e = .returned (.int .u64 d) ∧ ∃ Z, d ≤ 1 ∧ Z < 18446744073709551616 ^ (m - n) ∧ wv (xs.drop n) + c = Z + 18446744073709551616 ^ (m - n) * d ∧ VvP (subS r n m) (m - n) B Z w2 w') := Lib.hid (fun k => by
      have := addVW_gen (subS r n m) (subS x n m) _ (xs.drop n) c B (w2.drewN k) (hsub.drewN k) (hxd.below (undrewN' (Below.refl _ _))) (by rw [hsl, List.length_drop, ← HM.out]) (by rw [subS_blk hSx, subS_blk hSr]; intro h; rw [subS_off hSx (by omega), subS_off hSr (by omega), HAXR.out h]) (by rw [hsl]; omega) (by rw [hsl]; omega) (by omega)
      rw [hsl] at this
      refine this.mono ?_
      rintro _ w' ⟨d, rfl, Z, h1, h2, h3, h4, h5, h6⟩
      exact ⟨d, rfl, Z, h1, h2, h3, h4, undrewN h5, h6.undrewN⟩)
    have HO2 := Lib.hid ho2
    have HB2 := Lib.hid hb2
    have HF2 := Lib.hid hf2
    clear ho2 hb2 hf2 hsub hsl hxd HPT
    go_wp2_with fail
    (refine wp_region_hoist 8 (by kernel_rfl) (by kernel_rfl) ⟨fun _ _ _ h => (by first | exact (hQp _ _ _ h).elim | cases h.2.1 | (obtain ⟨_, h3, _⟩ := h.2; cases h3)), fun _ _ h => (by first | exact (hQo _ _ h).elim | cases h.1 | (obtain ⟨_, h3, _⟩ := h; cases h3))⟩ ?_; simp only [List.take_succ_cons, List.take_zero, List.drop_succ_cons, List.drop_zero]; (repeat (go_big_quiet_step (fail))); refine wpQuiet_nil ?_; rintro _ ⟨nq, rfl⟩)
    go_wp2_with fail
    refine (HADW.out _).mono ?_
    rintro _ w3 ⟨d, rfl, Z, hd1, hZl, hZ, hvp⟩
    have hpt := VvP.patch (l := n) (n := m) HO2.out hnm (by simp [cellsW_length, wdsN_length]; rw [HOS.out]; omega) hvp
    obtain ⟨ho3, hb3, hf3⟩ := hpt
    have hle : (cellsW (wdsN (wv (xs.take n) + wv ys) n)).length = n := by rw [cellsW_length, wdsN_length]
    have e2 : (cellsW (wdsN (wv (xs.take n) + wv ys) n) ++ os.drop n).take n = cellsW (wdsN (wv (xs.take n) + wv ys) n) := List.take_left' hle
    have e3 : (cellsW (wdsN (wv (xs.take n) + wv ys) n) ++ os.drop n).drop m = os.drop m := by
      rw [show m = n + (m - n) by omega, ← List.drop_drop, List.drop_left' hle, List.drop_drop]
    rw [e2, e3] at ho3
    have hset := ho3.set (i := m) (by simp [cellsW_length, wdsN_length]; rw [HOS.out]; omega) (.int .u64 (d : Int))
    have e4 : (cellsW (wdsN (wv (xs.take n) + wv ys) n) ++ (cellsW (wdsN Z (m - n)) ++ os.drop m)).set m (.int .u64 (d : Int)) = cellsW (wdsN (wv (xs.take n) + wv ys) n ++ (wdsN Z (m - n) ++ [d])) := by
      obtain ⟨u, hu⟩ : ∃ u, os.drop m = [u] := by
        have h1 : (os.drop m).length = 1 := by rw [List.length_drop, HOS.out]; have := HM1.out; omega
        match h : os.drop m, h1 with
        | [u], _ => exact ⟨u, rfl⟩
      rw [hu, List.set_append_right _ _ (by omega), hle, List.set_append_right _ _ (by rw [cellsW_length, wdsN_length]; exact Nat.le_refl _), cellsW_length, wdsN_length, Nat.sub_self, ← cellsW_append, ← cellsW_append]
      rfl
    rw [e4] at hset
    have hnum : wv (wdsN (wv (xs.take n) + wv ys) n ++ (wdsN Z (m - n) ++ [d])) = wv xs + wv ys := by
      rw [wv_append, wdsN_length, wv_append, wdsN_length, wv_wdsN_lt hZl, show wv [d] = d by simp [wv], ← hZ, wv_split xs n (by rw [← HM.out]; exact hnm), Nat.mul_add]
      have := HCS.out
      omega
    have hlt : ∀ e ∈ wdsN (wv (xs.take n) + wv ys) n ++ (wdsN Z (m - n) ++ [d]), e < 18446744073709551616 := by
      intro e he
      rcases List.mem_append.1 he with h | h
      · exact wdsN_lt e h
      · rcases List.mem_append.1 h with h | h
        · exact wdsN_lt e h
        · rw [List.mem_singleton] at h; omega
    have cm : ∃ u, w3.cell? ⟨sBlk r, sOff r + m, none⟩ = some u := ⟨_, ho3.cell (List.getElem?_eq_getElem (by simp [cellsW_length, wdsN_length]; rw [HOS.out]; omega))⟩
    obtain ⟨u, cm⟩ := cm
    have fz := ho3.frozen hcr0 (sOff r + m)
    have hB3 := bset (i := sOff r + m) (u := .int .u64 (d : Int)) (HB2.out.trans hb3) hBr
    have hF3 : Only (sBlk r) w1 (w3.setCell ⟨sBlk r, sOff r + m, none⟩ (.int .u64 (d : Int))) := fun k hk hne => by
      rw [heap_setCell_other _ _ _ _ (by simpa using hne), hf3.only k (Nat.lt_of_lt_of_le hk HB2.out.size) hne]; exact HF2.out.only k hk hne
    have Q : Hid (NatR z (subS r 0 (nw (wv xs + wv ys))) (wv xs + wv ys) B w (w3.setCell ⟨sBlk r, sOff r + m, none⟩ (.int .u64 (d : Int)))) := Lib.hid (by
      have h1 := hset.takeW hlt
      rw [hnum] at h1
      exact ⟨h1, (HMK.out.below.mono HB.out).trans hB3, HMK.out.fr hS hm1p hB3.size hF3, fun hc => HMK.out.atS hS hSr hc⟩)
    have HNM := Lib.hid (norm_any r _ (w3.setCell ⟨sBlk r, sOff r + m, none⟩ (.int .u64 (d : Int))) (hset.rw' hlt) (by simp [wdsN_length]; omega))
    rw [hnum] at HNM
    have hSq := Q.out.own.isS
    clear ho3 hb3 hf3 hle e2 e3 hset e4 hnum hlt hvp hZ hB3 hF3 HADW HADD
    go_wp2_with fail
    refine HNM.out.mono ?_
    rintro _ _ ⟨rfl, rfl⟩
    go_wp2
    go_ret
    exact ⟨_, rfl, Q.out⟩
  · have hmn2 : m = n := by omega
    have t4 : decide ((n : Int) < (m : Int)) = false := decide_eq_false (by omega)
    have t4' : decide (n < m) = false := decide_eq_false hmn
    obtain ⟨ho2, hb2, hf2⟩ := HPT.out
    have hle : (cellsW (wdsN (wv (xs.take n) + wv ys) n)).length = n := by rw [cellsW_length, wdsN_length]
    have hset := ho2.set (i := m) (by simp [cellsW_length, wdsN_length]; rw [HOS.out]; omega) (.int .u64 (c : Int))
    have e4 : (cellsW (wdsN (wv (xs.take n) + wv ys) n) ++ os.drop n).set m (.int .u64 (c : Int)) = cellsW (wdsN (wv (xs.take n) + wv ys) n ++ [c]) := by
      obtain ⟨u, hu⟩ : ∃ u, os.drop n = [u] := by
        have h1 : (os.drop n).length = 1 := by rw [List.length_drop, HOS.out]; have := HM1.out; omega
        match h : os.drop n, h1 with
        | [u], _ => exact ⟨u, rfl⟩
      rw [hu, List.set_append_right _ _ (by omega), hle, show m - n = 0 by omega, ← cellsW_append]
      rfl
    rw [e4] at hset
    have hnum : wv (wdsN (wv (xs.take n) + wv ys) n ++ [c]) = wv xs + wv ys := by
      have := HCS.out
      rw [wv_append, wdsN_length, show wv [c] = c by simp [wv], ← this, List.take_of_length_le (by rw [← HM.out]; omega)]
    have hlt : ∀ e ∈ wdsN (wv (xs.take n) + wv ys) n ++ [c], e < 18446744073709551616 := by
      intro e he
      rcases List.mem_append.1 he with h | h
      · exact wdsN_lt e h
      · rw [List.mem_singleton] at h; omega
    obtain ⟨u, cm⟩ : ∃ u, w2.cell? ⟨sBlk r, sOff r + m, none⟩ = some u := ⟨_, ho2.cell (List.getElem?_eq_getElem (by simp [cellsW_length, wdsN_length]; rw [HOS.out]; omega))⟩
    have fz := ho2.frozen hcr0 (sOff r + m)
    have hB3 := bset (i := sOff r + m) (u := .int .u64 (c : Int)) hb2 hBr
    have hF3 : Only (sBlk r) w1 (w2.setCell ⟨sBlk r, sOff r + m, none⟩ (.int .u64 (c : Int))) := fun k hk hne => by
      rw [heap_setCell_other _ _ _ _ (by simpa using hne)]; exact hf2.only k hk hne
    have Q : Hid (NatR z (subS r 0 (nw (wv xs + wv ys))) (wv xs + wv ys) B w (w2.setCell ⟨sBlk r, sOff r + m, none⟩ (.int .u64 (c : Int)))) := Lib.hid (by
      have h1 := hset.takeW hlt
      rw [hnum] at h1
      exact ⟨h1, (HMK.out.below.mono HB.out).trans hB3, HMK.out.fr hS hm1p hB3.size hF3, fun hc => HMK.out.atS hS hSr hc⟩)
    have HNM := Lib.hid (norm_any r _ (w2.setCell ⟨sBlk r, sOff r + m, none⟩ (.int .u64 (c : Int))) (hset.rw' hlt) (by simp [wdsN_length]; omega))
    rw [hnum] at HNM
    have hSq := Q.out.own.isS
    clear ho2 hb2 hf2 hle hset e4 hnum hlt hB3 hF3 HADD HPT hmn hmn2
    go_wp2_with fail
    refine HNM.out.mono ?_
    rintro _ _ ⟨rfl, rfl⟩
    go_wp2
    go_ret
    exact ⟨_, rfl, Q.out⟩
theorem wds_zero : wds 0 = [] := rfl
theorem NatR.ofSet {z r : Value} {N B : Nat} {w w' : World} (h : Own w' B 116 r (cellsW (wds N)) ∧ Below B w w' ∧ Fr z w w' ∧ (0 < sCap r → (0 < sCap z ∧ sBlk r = sBlk z) ∨ w.heap.size ≤ sBlk r)) : NatR z r N B w w' := ⟨h.1, h.2.1, h.2.2.1, h.2.2.2⟩
set_option maxRecDepth 100000 in
set_option maxHeartbeats 1600000 in
theorem nadd_ge (z x y : Value) (zs : List Value) (X Y B : Nat) (w : World) (hz : Own w B 116 z zs) (hx : RO w x (wds X)) (hy : RO w y (wds Y)) (ax : Al z x) (ay : Al z y) (hnm : nw Y ≤ nw X) (hl : nw X ≤ 100000000) (hB : B ≤ w.heap.size) :
    Calls Tryz.prog 158 #[z, x, y] w fun e w' => ∃ r, e = .returned r ∧ NatR z r (X + Y) B w w' := by
  have hS := hz.isS
  have hSx := hx.rw.isS
  have hSy := hy.rw.isS
  have hLx : sLen x = nw X := by rw [hx.rw.len, wds_length]
  have hLy : sLen y = nw Y := by rw [hy.rw.len, wds_length]
  rcases Nat.eq_zero_or_pos (nw Y) with h0 | h0
  · have hY0 := nw_eq_zero.1 h0
    have t1 : decide ((nw X : Int) < (nw Y : Int)) = false := decide_eq_false (by omega)
    have hLy0 : sLen y = 0 := by rw [hLy, h0]
    rcases Nat.eq_zero_or_pos (nw X) with g0 | g0
    · have hX0 := nw_eq_zero.1 g0
      have hLx0 : sLen x = 0 := by rw [hLx, g0]
      have Q : Hid (NatR z (subS z 0 0) (X + Y) B w w) := Lib.hid (by
        rw [hX0, hY0]
        exact ⟨by have := hz.sub (l := 0) (n := 0) (Nat.le_refl _) (Nat.zero_le _); simpa [cellsW, wds_zero] using this, Below.refl _ _, Fr.refl _ _, fun hc => .inl ⟨by rw [subS_cap hz.isS] at hc; exact hc, subS_blk hz.isS⟩⟩)
      have hSq := Q.out.own.isS
      have hc0 : 0 ≤ sCap z := Nat.zero_le _
      clear hz hx hy ax ay hLx hLy h0 g0 hX0 hY0 t1 hl hnm
      go_enter Tryz.func158, Tryz.ntmps158
      go_wp2
      go_ret
      exact ⟨_, rfl, Q.out⟩
    · obtain ⟨m, hm⟩ : ∃ m, m = nw X := ⟨_, rfl⟩
      rw [← hm] at hLx g0
      have t2 : ((m : Int) == 0) = false := by rw [beq_eq_false_iff_ne]; omega
      have t3 : decide ((m : Int) < 0) = false := decide_eq_false (by omega)
      have HS : Hid (Calls Tryz.prog 135 #[z, x] w fun e w' => ∃ r, e = .returned r ∧ NatR z r (X + Y) B w w') := Lib.hid (by
        refine (set_at z x zs (wds X) B w hz hx.rw (by rw [wds_length]; omega) hB).mono ?_
        rintro _ w' ⟨r, rfl, h⟩
        exact ⟨r, rfl, by rw [hY0, Nat.add_zero]; exact .ofSet h⟩)
      clear hz hx hy ax ay hLy h0 hY0 t1 hm hl hnm
      go_enter Tryz.func158, Tryz.ntmps158
      go_wp2_with fail
      refine HS.out.mono ?_
      rintro _ w1 ⟨r, rfl, h⟩
      have Q := Lib.hid h
      have hSq := h.own.isS
      clear h
      go_wp2
      go_ret
      exact ⟨_, rfl, Q.out⟩
  · have := nadd_core z x y zs (wds X) (wds Y) B w hz hx hy.rw ax ay (by rw [wds_length]; exact h0) (by rw [wds_length, wds_length]; exact hnm) (by rw [wds_length]; exact hl) hB
    rw [wv_wds, wv_wds] at this
    exact this
set_option maxRecDepth 100000 in
theorem nadd_any (z x y : Value) (zs : List Value) (X Y B : Nat) (w : World) (hz : Own w B 116 z zs) (hx : RO w x (wds X)) (hy : RO w y (wds Y)) (ax : Al z x) (ay : Al z y) (hl : nw X ≤ 100000000) (hl2 : nw Y ≤ 100000000) (hB : B ≤ w.heap.size) :
    Calls Tryz.prog 158 #[z, x, y] w fun e w' => ∃ r, e = .returned r ∧ NatR z r (X + Y) B w w' := by
  by_cases h : nw Y ≤ nw X
  · exact nadd_ge z x y zs X Y B w hz hx hy ax ay h hl hB
  · have HR := Lib.hid (nadd_ge z y x zs Y X B w hz hy hx ay ax (by omega) hl2 hB)
    have hS := hz.isS
    have hSx := hx.rw.isS
    have hSy := hy.rw.isS
    have hLx : sLen x = nw X := by rw [hx.rw.len, wds_length]
    have hLy : sLen y = nw Y := by rw [hy.rw.len, wds_length]
    obtain ⟨m, hm⟩ : ∃ m, m = nw X := ⟨_, rfl⟩
    obtain ⟨n, hn⟩ : ∃ n, n = nw Y := ⟨_, rfl⟩
    rw [← hm] at hLx h
    rw [← hn] at hLy h
    rw [Nat.add_comm] at HR
    have t1 : decide ((m : Int) < (n : Int)) = true := decide_eq_true (by omega)
    have t1' : decide (m < n) = true := decide_eq_true (by omega)
    clear hz hx hy ax ay hm hn h
    go_enter Tryz.func158, Tryz.ntmps158
    go_wp2_with fail
    refine HR.out.mono ?_
    rintro _ w1 ⟨r, rfl, h⟩
    have Q := Lib.hid h
    have hSq := h.own.isS
    clear h
    go_wp2
    go_ret
    exact ⟨_, rfl, Q.out⟩
set_option maxRecDepth 100000 in
set_option maxHeartbeats 3200000 in
theorem nsub_core (z x y : Value) (zs : List Value) (xs ys : List Nat) (B : Nat) (w : World) (hz : Own w B 116 z zs) (hx : RO w x xs) (hy : RW w y ys) (ax : Al z x) (ay : Al z y) (hn0 : 0 < ys.length) (hnm : ys.length ≤ xs.length) (hge : wv ys ≤ wv xs) (hl : xs.length ≤ 100000000) (hB : B ≤ w.heap.size) :
    Calls Tryz.prog 160 #[z, x, y] w fun e w' => ∃ r, e = .returned r ∧ NatR z r (wv xs - wv ys) B w w' := by
  have hS := hz.isS
  have hSx := hx.rw.isS
  have hSy := hy.isS
  obtain ⟨m, hm⟩ : ∃ m, m = xs.length := ⟨_, rfl⟩
  obtain ⟨n, hn⟩ : ∃ n, n = ys.length := ⟨_, rfl⟩
  have hLx : sLen x = m := by rw [hx.rw.len, hm]
  have hLy : sLen y = n := by rw [hy.len, hn]
  have hcx : m ≤ sCap x := by have := hSx.le; omega
  have hcy : n ≤ sCap y := by have := hSy.le; omega
  rw [← hn] at hn0 hnm
  rw [← hm] at hnm hl
  have t1 : decide ((m : Int) < (n : Int)) = false := decide_eq_false (by omega)
  have t2 : ((m : Int) == 0) = false := by rw [beq_eq_false_iff_ne]; omega
  have t3 : ((n : Int) == 0) = false := by rw [beq_eq_false_iff_ne]; omega
  have hm1p : 0 < m := by omega
  have HM := Lib.hid hm
  have HN := Lib.hid hn
  have HZ := Lib.hid hz
  have HX := Lib.hid hx
  have HY := Lib.hid hy
  have HAX := Lib.hid ax
  have HAY := Lib.hid ay
  have HB := Lib.hid hB
  have HGE := Lib.hid hge
  clear hz hx hy ax ay hB hm hn hge
  go_enter Tryz.func160, Tryz.ntmps160
  go_wp2_with fail
  refine (make_any z zs m B w HZ.out (by omega) HB.out).mono ?_
  rintro _ w1 ⟨r, rfl, hmk⟩
  obtain ⟨os, hos, hor⟩ := hmk.own
  have hSr := hor.isS
  have hLr : sLen r = m := by rw [hor.len, hos]
  have hcr : m ≤ sCap r := by have := hSr.le; omega
  have hcr0 : 0 < sCap r := by omega
  have hBr := (hor.lt hcr0).1
  have hX1 := HX.out.below hmk.below
  have hY1 := HY.out.below hmk.below
  have aX := hmk.al hS hm1p HAX.out HX.out.rw (by rw [← HM.out]; omega)
  have aY := hmk.al hS hm1p HAY.out HY.out (by rw [← HN.out]; exact hn0)
  have hSr0 : IsS (subS r 0 n) := subS_isS hSr (Nat.zero_le _) (by omega)
  have hSx0 : IsS (subS x 0 n) := subS_isS hSx (Nat.zero_le _) (by omega)
  have hSy0 : IsS (subS y 0 n) := subS_isS hSy (Nat.zero_le _) (by omega)
  have hsub := hor.sub (l := 0) (n := n) (Nat.zero_le _) (by omega)
  have hsl : ((os.take n).drop 0).length = n := by simp; omega
  have hxt := hX1.rw.take (n := n) (by rw [← HM.out]; exact hnm)
  have hyt := hY1.take (n := n) (by rw [← HN.out]; exact Nat.le_refl _)
  rw [List.take_of_length_le (by rw [← HN.out]; exact Nat.le_refl _)] at hyt
  have HSUB : Hid (∀ k, Calls Tryz.prog 188 #[subS r 0 n, subS x 0 n, subS y 0 n] (w1.drewN k) fun e w' => ∃ c : Nat, e = .returned (.int .u64 c) ∧ ∃ Z, c ≤ 1 ∧ Z < 18446744073709551616 ^ n ∧ wv (xs.take n) + 18446744073709551616 ^ n * c = Z + wv ys ∧ VvP (subS r 0 n) n B Z w1 w') := Lib.hid (fun k => by
    have := subVV_any (subS r 0 n) (subS x 0 n) (subS y 0 n) ((os.take n).drop 0) (xs.take n) ys B (w1.drewN k) (hsub.drewN k) (hxt.below (undrewN' (Below.refl _ _))) (hyt.below (undrewN' (Below.refl _ _))) (by rw [hsl, List.length_take, ← HM.out]; omega) (by rw [hsl, ← HN.out]) (by rw [(sub0 hSx).1, (sub0 hSr).1, (sub0 hSx).2, (sub0 hSr).2]; intro h; rw [aX h]; exact Nat.le_refl _)
      (by rw [(sub0 hSy).1, (sub0 hSr).1, (sub0 hSy).2, (sub0 hSr).2]; intro h; rw [aY h]; exact Nat.le_refl _) (by rw [hsl]; omega)
    rw [hsl] at this
    refine this.mono ?_
    rintro _ w' ⟨c, rfl, Z, h1, h2, h3, h4, h5, h6⟩
    exact ⟨c, rfl, Z, h1, h2, h3, h4, undrewN h5, h6.undrewN⟩)
  have HOR := Lib.hid hor
  have HOS := Lib.hid hos
  have HMK := Lib.hid hmk
  have HX1 := Lib.hid hX1
  have HAXR := Lib.hid aX
  clear hor hos hmk hX1 hY1 aX aY hsub hsl hxt hyt
  go_wp2_with fail
  (refine wp_region_hoist 9 (by kernel_rfl) (by kernel_rfl) ⟨fun _ _ _ h => (by first | exact (hQp _ _ _ h).elim | cases h.2.1 | (obtain ⟨_, h3, _⟩ := h.2; cases h3)), fun _ _ h => (by first | exact (hQo _ _ h).elim | cases h.1 | (obtain ⟨_, h3, _⟩ := h; cases h3))⟩ ?_; simp only [List.take_succ_cons, List.take_zero, List.drop_succ_cons, List.drop_zero]; (repeat (go_big_quiet_step (fail))); refine wpQuiet_nil ?_; rintro _ ⟨nq, rfl⟩)
  go_wp2_with fail
  refine (HSUB.out _).mono ?_
  rintro _ w2 ⟨c, rfl, Z1, hc1, hZ1l, hcs, hvp⟩
  have hpt := VvP.patch (l := 0) (n := n) HOR.out (Nat.zero_le _) (by rw [HOS.out]; exact hnm) hvp
  rw [List.take_zero, List.nil_append, Nat.sub_zero] at hpt
  have HCS := Lib.hid hcs
  have HPT := Lib.hid hpt
  have HZ1 := Lib.hid hZ1l
  clear hcs hpt hvp hZ1l
  by_cases hmn : n < m
  · have t4 : decide ((n : Int) < (m : Int)) = true := decide_eq_true (by omega)
    have t4' : decide (n < m) = true := decide_eq_true hmn
    obtain ⟨ho2, hb2, hf2⟩ := HPT.out
    have hSr1 : IsS (subS r n m) := subS_isS hSr hnm (by omega)
    have hSx1 : IsS (subS x n m) := subS_isS hSx hnm hcx
    have hsub := ho2.sub (l := n) (n := m) hnm (by simp [cellsW_length, wdsN_length]; rw [HOS.out]; omega)
    have hsl : (((cellsW (wdsN Z1 n) ++ os.drop n).take m).drop n).length = m - n := by simp [cellsW_length, wdsN_length]; rw [HOS.out]; omega
    have hxd : RO w2 (subS x n m) (xs.drop n) := by
      have h1 := HX1.out.drop (n := n) (by rw [← HM.out]; exact hnm)
      rw [← HM.out] at h1
      refine hf2.ro h1 fun hb => .inr ?_
      rw [subS_blk hSx] at hb
      rw [subS_off hSx (by omega), HAXR.out hb]; omega
    have HSBW : Hid (∀ k, Calls Tryz.prog 189 #[subS r n m, subS x n m, .int .u64 c] (w2.drewN k) fun e w' => ∃ d : Nat, e = .returned (.int .u64 d) ∧ ∃ Z, d ≤ 1 ∧ Z < 18446744073709551616 ^ (m - n) ∧ wv (xs.drop n) + 18446744073709551616 ^ (m - n) * d = Z + c ∧ VvP (subS r n m) (m - n) B Z w2 w') := Lib.hid (fun k => by
      have := subVW_gen (subS r n m) (subS x n m) _ (xs.drop n) c B (w2.drewN k) (hsub.drewN k) (hxd.below (undrewN' (Below.refl _ _))) (by rw [hsl, List.length_drop, ← HM.out]) (by rw [subS_blk hSx, subS_blk hSr]; intro h; rw [subS_off hSx (by omega), subS_off hSr (by omega), HAXR.out h]) (by rw [hsl]; omega) (by rw [hsl]; omega) (by omega)
      rw [hsl] at this
      refine this.mono ?_
      rintro _ w' ⟨d, rfl, Z, h1, h2, h3, h4, h5, h6⟩
      exact ⟨d, rfl, Z, h1, h2, h3, h4, undrewN h5, h6.undrewN⟩)
    have HO2 := Lib.hid ho2
    have HB2 := Lib.hid hb2
    have HF2 := Lib.hid hf2
    clear ho2 hb2 hf2 hsub hsl hxd HPT
    go_wp2_with fail
    (refine wp_region_hoist 7 (by kernel_rfl) (by kernel_rfl) ⟨fun _ _ _ h => (by first | exact (hQp _ _ _ h).elim | cases h.2.1 | (obtain ⟨_, h3, _⟩ := h.2; cases h3)), fun _ _ h => (by first | exact (hQo _ _ h).elim | cases h.1 | (obtain ⟨_, h3, _⟩ := h; cases h3))⟩ ?_; simp only [List.take_succ_cons, List.take_zero, List.drop_succ_cons, List.drop_zero]; (repeat (go_big_quiet_step (fail))); refine wpQuiet_nil ?_; rintro _ ⟨nq, rfl⟩)
    go_wp2_with fail
    refine (HSBW.out _).mono ?_
    rintro _ w3 ⟨d, rfl, Z, hd1, hZl, hZ, hvp⟩
    have hpt := VvP.patch (l := n) (n := m) HO2.out hnm (by simp [cellsW_length, wdsN_length]; rw [HOS.out]; omega) hvp
    obtain ⟨ho3, hb3, hf3⟩ := hpt
    have hle : (cellsW (wdsN Z1 n)).length = n := by rw [cellsW_length, wdsN_length]
    have e2 : (cellsW (wdsN Z1 n) ++ os.drop n).take n = cellsW (wdsN Z1 n) := List.take_left' hle
    have e3 : (cellsW (wdsN Z1 n) ++ os.drop n).drop m = [] := List.drop_of_length_le (by rw [List.length_append, hle, List.length_drop, HOS.out]; omega)
    rw [e2, e3, List.append_nil, cellsW_append] at ho3
    have hsum := wv_split xs n (by rw [← HM.out]; exact hnm)
    have hpow : 18446744073709551616 ^ n * 18446744073709551616 ^ (m - n) = 18446744073709551616 ^ m := by rw [← Nat.pow_add]; congr 1; omega
    have hyl := wv_lt (HY.out.lt)
    have hd0 : d = 0 := by
      rcases (by omega : d = 0 ∨ d = 1) with h | h
      · exact h
      · exfalso
        have h1 := HCS.out; have h2 := HGE.out
        have h3 : 18446744073709551616 ^ n * (wv (xs.drop n) + 18446744073709551616 ^ (m - n) * d) = 18446744073709551616 ^ n * (Z + c) := by rw [hZ]
        rw [Nat.mul_add, ← Nat.mul_assoc, hpow, Nat.mul_add, h, Nat.mul_one] at h3
        have h4 := join_lt HZ1.out hnm hZl
        omega
    subst hd0
    have hnum : wv (wdsN Z1 n ++ wdsN Z (m - n)) = wv xs - wv ys := by
      rw [wv_append, wdsN_length, wv_wdsN_lt HZ1.out, wv_wdsN_lt hZl]
      have h1 := HCS.out
      have h3 : 18446744073709551616 ^ n * (wv (xs.drop n) + 18446744073709551616 ^ (m - n) * 0) = 18446744073709551616 ^ n * (Z + c) := by rw [hZ]
      rw [Nat.mul_zero, Nat.add_zero, Nat.mul_add] at h3
      omega
    have hlt : ∀ e ∈ wdsN Z1 n ++ wdsN Z (m - n), e < 18446744073709551616 := by
      intro e he
      rcases List.mem_append.1 he with h | h
      · exact wdsN_lt e h
      · exact wdsN_lt e h
    have hB3 := HB2.out.trans hb3
    have hF3 : Only (sBlk r) w1 w3 := HF2.out.only.trans HB2.out.size hf3.only
    have Q : Hid (NatR z (subS r 0 (nw (wv xs - wv ys))) (wv xs - wv ys) B w w3) := Lib.hid (by
      have h1 := ho3.takeW hlt
      rw [hnum] at h1
      exact ⟨h1, (HMK.out.below.mono HB.out).trans hB3, HMK.out.fr hS hm1p hB3.size hF3, fun hc => HMK.out.atS hS hSr hc⟩)
    have HNM := Lib.hid (norm_any r _ w3 (ho3.rw' hlt) (by simp [wdsN_length]; omega))
    rw [hnum] at HNM
    have hSq := Q.out.own.isS
    clear ho3 hb3 hf3 hle e2 e3 hnum hlt hvp hZ hB3 hF3 HSBW HSUB hsum hpow hyl hd1
    go_wp2_with fail
    refine HNM.out.mono ?_
    rintro _ _ ⟨rfl, rfl⟩
    go_wp2
    go_ret
    exact ⟨_, rfl, Q.out⟩
  · have hmn2 : m = n := by omega
    have t4 : decide ((n : Int) < (m : Int)) = false := decide_eq_false (by omega)
    have t4' : decide (n < m) = false := decide_eq_false hmn
    obtain ⟨ho2, hb2, hf2⟩ := HPT.out
    rw [show os.drop n = [] from List.drop_of_length_le (by rw [HOS.out]; omega), List.append_nil] at ho2
    have hc0 : c = 0 := by
      rcases (by omega : c = 0 ∨ c = 1) with h | h
      · exact h
      · exfalso
        have h1 := HCS.out; have h2 := HGE.out; have h3 := HZ1.out
        rw [h, Nat.mul_one, List.take_of_length_le (by rw [← HM.out]; omega)] at h1
        omega
    subst hc0
    have hnum : wv (wdsN Z1 n) = wv xs - wv ys := by
      have h1 := HCS.out
      rw [Nat.mul_zero, Nat.add_zero, List.take_of_length_le (by rw [← HM.out]; omega)] at h1
      rw [wv_wdsN_lt HZ1.out]; omega
    have Q : Hid (NatR z (subS r 0 (nw (wv xs - wv ys))) (wv xs - wv ys) B w w2) := Lib.hid (by
      have h1 := ho2.takeW wdsN_lt
      rw [hnum] at h1
      exact ⟨h1, (HMK.out.below.mono HB.out).trans hb2, HMK.out.fr hS hm1p hb2.size hf2.only, fun hc => HMK.out.atS hS hSr hc⟩)
    have HNM := Lib.hid (norm_any r _ w2 (ho2.rw' wdsN_lt) (by simp [wdsN_length]; omega))
    rw [hnum] at HNM
    have hSq := Q.out.own.isS
    clear ho2 hb2 hf2 hnum HSUB HPT hmn hmn2 hc1
    go_wp2_with fail
    refine HNM.out.mono ?_
    rintro _ _ ⟨rfl, rfl⟩
    go_wp2
    go_ret
    exact ⟨_, rfl, Q.out⟩
set_option maxRecDepth 100000 in
set_option maxHeartbeats 1600000 in
theorem nsub_any (z x y : Value) (zs : List Value) (X Y B : Nat) (w : World) (hz : Own w B 116 z zs) (hx : RO w x (wds X)) (hy : RO w y (wds Y)) (ax : Al z x) (ay : Al z y) (hge : Y ≤ X) (hl : nw X ≤ 100000000) (hB : B ≤ w.heap.size) :
    Calls Tryz.prog 160 #[z, x, y] w fun e w' => ∃ r, e = .returned r ∧ NatR z r (X - Y) B w w' := by
  have hS := hz.isS
  have hSx := hx.rw.isS
  have hSy := hy.rw.isS
  have hLx : sLen x = nw X := by rw [hx.rw.len, wds_length]
  have hLy : sLen y = nw Y := by rw [hy.rw.len, wds_length]
  rcases Nat.eq_zero_or_pos (nw Y) with h0 | h0
  · have hY0 := nw_eq_zero.1 h0
    have hLy0 : sLen y = 0 := by rw [hLy, h0]
    rcases Nat.eq_zero_or_pos (nw X) with g0 | g0
    · have hX0 := nw_eq_zero.1 g0
      have hLx0 : sLen x = 0 := by rw [hLx, g0]
      have Q : Hid (NatR z (subS z 0 0) (X - Y) B w w) := Lib.hid (by
        rw [hX0, hY0]
        exact ⟨by have := hz.sub (l := 0) (n := 0) (Nat.le_refl _) (Nat.zero_le _); simpa [cellsW, wds_zero] using this, Below.refl _ _, Fr.refl _ _, fun hc => .inl ⟨by rw [subS_cap hz.isS] at hc; exact hc, subS_blk hz.isS⟩⟩)
      have hSq := Q.out.own.isS
      have hc0 : 0 ≤ sCap z := Nat.zero_le _
      clear hz hx hy ax ay hLx hLy h0 g0 hX0 hY0 hl hge
      go_enter Tryz.func160, Tryz.ntmps160
      go_wp2
      go_ret
      exact ⟨_, rfl, Q.out⟩
    · obtain ⟨m, hm⟩ : ∃ m, m = nw X := ⟨_, rfl⟩
      rw [← hm] at hLx g0
      have t2 : ((m : Int) == 0) = false := by rw [beq_eq_false_iff_ne]; omega
      have t3 : decide ((m : Int) < 0) = false := decide_eq_false (by omega)
      have HS : Hid (Calls Tryz.prog 135 #[z, x] w fun e w' => ∃ r, e = .returned r ∧ NatR z r (X - Y) B w w') := Lib.hid (by
        refine (set_at z x zs (wds X) B w hz hx.rw (by rw [wds_length]; omega) hB).mono ?_
        rintro _ w' ⟨r, rfl, h⟩
        exact ⟨r, rfl, by rw [hY0, Nat.sub_zero]; exact .ofSet h⟩)
      clear hz hx hy ax ay hLy h0 hY0 hm hl hge
      go_enter Tryz.func160, Tryz.ntmps160
      go_wp2_with fail
      refine HS.out.mono ?_
      rintro _ w1 ⟨r, rfl, h⟩
      have Q := Lib.hid h
      have hSq := h.own.isS
      clear h
      go_wp2
      go_ret
      exact ⟨_, rfl, Q.out⟩
  · have := nsub_core z x y zs (wds X) (wds Y) B w hz hx hy.rw ax ay (by rw [wds_length]; exact h0) (by rw [wds_length, wds_length]; exact nw_mono hge) (by rw [wv_wds, wv_wds]; exact hge) (by rw [wds_length]; exact hl) hB
    rw [wv_wds, wv_wds] at this
    exact this
theorem top_carry {X L t : Nat} (hX : X < 18446744073709551616 ^ (L + 1)) (_h0 : 0 < t) (ht : t < 64) : wdg X L / 2 ^ (64 - t) = X * 2 ^ t / 18446744073709551616 ^ (L + 1) := by
  have h1 : wdg X L = X / 18446744073709551616 ^ L := by
    unfold wdg
    rw [Nat.mod_eq_of_lt]
    exact Nat.div_lt_of_lt_mul (by rw [Nat.pow_succ] at hX; exact hX)
  rw [h1, Nat.div_div_eq_div_mul, Nat.pow_succ, ← word_split (s := t) (by omega), ← Nat.mul_assoc, Nat.mul_div_mul_right _ _ (Nat.two_pow_pos t)]
set_option maxRecDepth 100000 in
theorem alias_nil (x : Value) (w : World) (_hx : IsS x) :
    Calls Tryz.prog 167 #[.slice none 0 0, x] w fun e w' => e = .returned (.bool false) ∧ ∃ m, w' = w.drewN m := by
  have hS := IsS.nil
  go_enter Tryz.func167, Tryz.ntmps167
  go_wp2_with fail
  go_quiet (fail)
  go_wp2
  go_ret
  exact ⟨rfl, _, rfl⟩
set_option maxRecDepth 100000 in
theorem mulWWW_any (x y c q r : Nat) (w : World) (hx : x < 18446744073709551616) (hy : y < 18446744073709551616) (hc : c < 18446744073709551616) (h : x * y + c = r + 18446744073709551616 * q) (hr : r < 18446744073709551616) (hq : q < 18446744073709551616) :
    Calls Tryz.prog 235 #[.int .u64 x, .int .u64 y, .int .u64 c] w fun e w' => e = .returned (.tuple #[.int .u64 q, .int .u64 r]) ∧ w' = w := by
  have HM := Lib.hid (Tryz.bits_Mul x y hx hy w)
  obtain ⟨P, hP⟩ : ∃ P, P = x * y := ⟨_, rfl⟩
  rw [← hP] at HM h
  obtain ⟨hi, hhi⟩ : ∃ hi, hi = P / 18446744073709551616 := ⟨_, rfl⟩
  obtain ⟨lo, hlo⟩ : ∃ lo, lo = P % 18446744073709551616 := ⟨_, rfl⟩
  rw [← hhi, ← hlo] at HM
  obtain ⟨cc, hcc⟩ : ∃ cc, cc = q - hi := ⟨_, rfl⟩
  have H1 := Lib.hid (show lo + c = r + 18446744073709551616 * cc by omega)
  have hle : hi + cc = q := by omega
  have e0 : (hi : Int) + (cc : Int) = (q : Int) := by omega
  have e1 : IntKind.u64.wrap ((hi : Int) + (cc : Int)) = (q : Int) := by rw [e0, IntKind.wrap_u64]; omega
  have hlol : lo < 18446744073709551616 := by omega
  have hhil : hi < 18446744073709551616 := by omega
  clear hP hhi hlo hcc h hle
  go_enter Tryz.func235, Tryz.ntmps235
  go_wp2_with fail
  refine HM.out.mono ?_
  rintro _ _ ⟨rfl, rfl⟩
  go_wp2_with fail
  refine (bitsAdd0 lo c r cc _ H1.out hr).mono ?_
  rintro _ _ ⟨rfl, rfl⟩
  go_wp2
  go_ret2
  exact ⟨rfl, rfl⟩
theorem mul_word_lt {a y d q s : Nat} (ha : a < 18446744073709551616) (hy : y < 18446744073709551616) (hd : d < 18446744073709551616) (h : a * y + d = s + 18446744073709551616 * q) : q < 18446744073709551616 := by
  have h1 : a * y ≤ 18446744073709551615 * 18446744073709551615 := Nat.mul_le_mul (by omega) (by omega)
  omega
set_option maxRecDepth 100000 in
set_option maxHeartbeats 1600000 in
theorem mulAddVWW_g_any (v x : Value) (os : List Value) (xs : List Nat) (y r B : Nat) (w : World) (ho : Own w B 116 v os) (hx : RW w x xs) (hlx : xs.length = os.length)
    (hax : sBlk x = sBlk v → sOff v ≤ sOff x) (hy : y < 18446744073709551616) (hr : r < 18446744073709551616) (hl : os.length ≤ 1000000000) :
    Calls Tryz.prog 226 #[v, x, .int .u64 y, .int .u64 r] w fun e w' => ∃ c : Nat, e = .returned (.int .u64 c) ∧ (c < 18446744073709551616 ∧ wv xs * y + r = wv (wdsN (wv xs * y + r) os.length) + 18446744073709551616 ^ os.length * c) ∧ VvP v os.length B (wv xs * y + r) w w' := by
  have hS := ho.isS
  have hSx := hx.isS
  obtain ⟨L, hLw⟩ : ∃ L, L = os.length := ⟨_, rfl⟩
  have hL : sLen v = L := by rw [hLw]; exact ho.len
  have hLx : sLen x = L := by rw [hx.len, hlx, hLw]
  have R0 := Lib.hid (Vv.start ho hLw.symm)
  have HB0 : Hid (0 < L → 0 < sCap v ∧ B ≤ sBlk v) := Lib.hid (fun h => by
    have := hS.le
    have hc : 0 < sCap v := by omega
    exact ⟨hc, (ho.lt hc).1⟩)
  have HXL : Hid (xs.length = L) := Lib.hid (by omega)
  rw [← hLw] at hl ⊢
  have HX := Lib.hid hx
  have HAX := Lib.hid hax
  clear ho hLw hx hlx hax
  go_enter Tryz.func226, Tryz.ntmps226
  go_wp2
  go_loopw [8, 19] (fun c i wr => ∃ k d Z : Nat, k ≤ L ∧ i = .int .i64 k ∧ c = .int .u64 d ∧ (d < 18446744073709551616 ∧ wv (xs.take k) * y + r = Z + 18446744073709551616 ^ k * d) ∧ Vv v L B k Z w wr) (fun c i _ => L - (intOf i).toNat)
  case atStart => exact ⟨0, r, 0, Nat.zero_le _, rfl, rfl, ⟨hr, by simp [wv]⟩, R0.out⟩
  case round =>
    obtain ⟨k, d, Z, hk, rfl, rfl, ⟨hd, hZ⟩, hrel⟩ := hrel
    have HREL := Lib.hid hrel
    by_cases hkL : k < L
    · obtain ⟨hcap, hB⟩ := HB0.out (by omega)
      have cx := hrel.src HX.out HAX.out (Nat.le_refl k) (by rw [HXL.out]; exact hkL)
      obtain ⟨u, cv⟩ := hrel.own hkL
      have fz := hrel.frozen hcap (sOff v + k)
      have hxl := getD_ltW HX.out.lt k
      have e1 := wv_take_succ (ws := xs) (i := k) (by rw [HXL.out]; exact hkL)
      obtain ⟨a, ha⟩ : ∃ a, a = xs.getD k 0 := ⟨_, rfl⟩
      rw [← ha] at cx hxl e1
      obtain ⟨s, c, hsc, hs⟩ : ∃ s c, a * y + d = s + 18446744073709551616 * c ∧ s < 18446744073709551616 := ⟨(a * y + d) % 18446744073709551616, (a * y + d) / 18446744073709551616, by omega, by omega⟩
      have hc1 := mul_word_lt hxl hy hd hsc
      have HA : Hid (Calls Tryz.prog 235 #[.int .u64 a, .int .u64 y, .int .u64 d] wr fun e w' => e = .returned (.tuple #[.int .u64 c, .int .u64 s]) ∧ w' = wr) := Lib.hid (mulWWW_any a y d c s _ hxl hy hd hsc hs hc1)
      have HZ : Hid (wv (xs.take (k + 1)) * y + r = Z + 18446744073709551616 ^ k * s + 18446744073709551616 ^ (k + 1) * c) := Lib.hid (by
        rw [e1, Nat.pow_succ, Nat.mul_assoc]
        have h1 : 18446744073709551616 ^ k * (a * y + d) = 18446744073709551616 ^ k * s + 18446744073709551616 ^ k * (18446744073709551616 * c) := by rw [hsc, Nat.mul_add]
        rw [Nat.mul_add, ← Nat.mul_assoc] at h1
        rw [Nat.add_mul]
        omega)
      have PUT := Lib.hid (HREL.out.put hkL hB hs)
      clear hrel e1 ha hZ hsc
      go_wp2_with fail
      refine HA.out.mono ?_
      rintro _ _ ⟨rfl, rfl⟩
      go_wp2
      exact ⟨⟨k + 1, c, _, by omega, by go_num, rfl, ⟨hc1, HZ.out⟩, PUT.out⟩, by simp [intOf]; omega⟩
    · have hkk : k = L := by omega
      have HD : Hid ((d < 18446744073709551616 ∧ wv xs * y + r = wv (wdsN (wv xs * y + r) L) + 18446744073709551616 ^ L * d) ∧ VvP v L B (wv xs * y + r) w wr) := Lib.hid (by
        subst hkk
        rw [List.take_of_length_le (by rw [HXL.out]; exact Nat.le_refl _)] at hZ
        have hZl : Z < 18446744073709551616 ^ k := by
          obtain ⟨os', ds, g1, g2, g3, g4, g5, g6, g7, g8⟩ := hrel
          have := wv_lt g5
          rw [g4] at this; omega
        refine ⟨⟨hd, ?_⟩, hrel.done d hZ⟩
        rw [wdsN_wv, hZ, Nat.add_mul_mod_self_left, Nat.mod_eq_of_lt hZl])
      clear hrel hZ HREL
      go_wp2
      go_ret
      exact ⟨d, rfl, HD.out⟩
set_option maxRecDepth 100000 in
theorem mulAddVWW_any (v x : Value) (os : List Value) (xs : List Nat) (y r B : Nat) (w : World) (ho : Own w B 116 v os) (hx : RW w x xs) (hlx : xs.length = os.length)
    (hax : sBlk x = sBlk v → sOff v ≤ sOff x) (hy : y < 18446744073709551616) (hr : r < 18446744073709551616) (hl : os.length ≤ 1000000000) :
    Calls Tryz.prog 207 #[v, x, .int .u64 y, .int .u64 r] w fun e w' => ∃ c : Nat, e = .returned (.int .u64 c) ∧ (c < 18446744073709551616 ∧ wv xs * y + r = wv (wdsN (wv xs * y + r) os.length) + 18446744073709551616 ^ os.length * c) ∧ VvP v os.length B (wv xs * y + r) w w' := by
  have hS := ho.isS
  have hSx := hx.isS
  have H := Lib.hid (mulAddVWW_g_any v x os xs y r B w ho hx hlx hax hy hr hl)
  clear ho hx hlx hax hl
  go_enter Tryz.func207, Tryz.ntmps207
  go_wp2_with fail
  refine H.out.mono ?_
  rintro _ w1 ⟨c, rfl, h1, h2⟩
  have H1 := Lib.hid (And.intro h1 h2)
  clear h1 h2
  go_wp2
  go_ret
  exact ⟨c, rfl, H1.out⟩
set_option maxRecDepth 100000 in
set_option maxHeartbeats 1600000 in
theorem addMulVVWW_g_any (v x y : Value) (os : List Value) (xs ys : List Nat) (m a0 B : Nat) (w : World) (ho : Own w B 116 v os) (hx : RW w x xs) (hy : RW w y ys) (hlx : xs.length = os.length) (hly : ys.length = os.length)
    (hax : sBlk x = sBlk v → sOff v ≤ sOff x) (hay : sBlk y = sBlk v → sOff v ≤ sOff y) (hm : m < 18446744073709551616) (ha0 : a0 < 18446744073709551616) (hl : os.length ≤ 1000000000) :
    Calls Tryz.prog 223 #[v, x, y, .int .u64 m, .int .u64 a0] w fun e w' => ∃ c : Nat, e = .returned (.int .u64 c) ∧ (c < 18446744073709551616 ∧ wv xs + wv ys * m + a0 = wv (wdsN (wv xs + wv ys * m + a0) os.length) + 18446744073709551616 ^ os.length * c) ∧ VvP v os.length B (wv xs + wv ys * m + a0) w w' := by
  have hS := ho.isS
  have hSx := hx.isS
  have hSy := hy.isS
  obtain ⟨L, hLw⟩ : ∃ L, L = os.length := ⟨_, rfl⟩
  have hL : sLen v = L := by rw [hLw]; exact ho.len
  have hLx : sLen x = L := by rw [hx.len, hlx, hLw]
  have hLy : sLen y = L := by rw [hy.len, hly, hLw]
  have R0 := Lib.hid (Vv.start ho hLw.symm)
  have HB0 : Hid (0 < L → 0 < sCap v ∧ B ≤ sBlk v) := Lib.hid (fun h => by
    have := hS.le
    have hc : 0 < sCap v := by omega
    exact ⟨hc, (ho.lt hc).1⟩)
  have HXL : Hid (xs.length = L) := Lib.hid (by omega)
  have HYL : Hid (ys.length = L) := Lib.hid (by omega)
  rw [← hLw] at hl ⊢
  have HX := Lib.hid hx
  have HY := Lib.hid hy
  have HAX := Lib.hid hax
  have HAY := Lib.hid hay
  clear ho hLw hx hy hlx hly hax hay
  go_enter Tryz.func223, Tryz.ntmps223
  go_wp2
  go_loopw [10, 32] (fun c i wr => ∃ k d Z : Nat, k ≤ L ∧ i = .int .i64 k ∧ c = .int .u64 d ∧ (d < 18446744073709551616 ∧ wv (xs.take k) + wv (ys.take k) * m + a0 = Z + 18446744073709551616 ^ k * d) ∧ Vv v L B k Z w wr) (fun c i _ => L - (intOf i).toNat)
  case atStart => exact ⟨0, a0, 0, Nat.zero_le _, rfl, rfl, ⟨ha0, by simp [wv]⟩, R0.out⟩
  case round =>
    obtain ⟨k, d, Z, hk, rfl, rfl, ⟨hd, hZ⟩, hrel⟩ := hrel
    have HREL := Lib.hid hrel
    by_cases hkL : k < L
    · obtain ⟨hcap, hB⟩ := HB0.out (by omega)
      have cx := hrel.src HX.out HAX.out (Nat.le_refl k) (by rw [HXL.out]; exact hkL)
      have cy := hrel.src HY.out HAY.out (Nat.le_refl k) (by rw [HYL.out]; exact hkL)
      obtain ⟨u, cv⟩ := hrel.own hkL
      have fz := hrel.frozen hcap (sOff v + k)
      have hxl := getD_ltW HX.out.lt k
      have hyl := getD_ltW HY.out.lt k
      have e1 := wv_take_succ (ws := xs) (i := k) (by rw [HXL.out]; exact hkL)
      have e2 := wv_take_succ (ws := ys) (i := k) (by rw [HYL.out]; exact hkL)
      obtain ⟨a, ha⟩ : ∃ a, a = xs.getD k 0 := ⟨_, rfl⟩
      obtain ⟨b, hb⟩ : ∃ b, b = ys.getD k 0 := ⟨_, rfl⟩
      rw [← ha] at cx hxl e1
      rw [← hb] at cy hyl e2
      have hbm : b * m ≤ 18446744073709551615 * 18446744073709551615 := Nat.mul_le_mul (by omega) (by omega)
      obtain ⟨s, z1, hsc, hs⟩ : ∃ s z1, b * m + a = s + 18446744073709551616 * z1 ∧ s < 18446744073709551616 := ⟨(b * m + a) % 18446744073709551616, (b * m + a) / 18446744073709551616, by omega, by omega⟩
      have hz1 : z1 < 18446744073709551616 := by omega
      obtain ⟨l, cc, hlc, hll⟩ : ∃ l cc, s + d = l + 18446744073709551616 * cc ∧ l < 18446744073709551616 := ⟨(s + d) % 18446744073709551616, (s + d) / 18446744073709551616, by omega, by omega⟩
      obtain ⟨c, hc⟩ : ∃ c, c = cc + z1 := ⟨_, rfl⟩
      have hc1 : c < 18446744073709551616 := by omega
      have hcc1 : cc < 18446744073709551616 := by omega
      have e3 : (cc : Int) + (z1 : Int) = (c : Int) := by omega
      have e4 : IntKind.u64.wrap ((cc : Int) + (z1 : Int)) = (c : Int) := by rw [e3, IntKind.wrap_u64]; omega
      have HA : Hid (∀ n, Calls Tryz.prog 235 #[.int .u64 b, .int .u64 m, .int .u64 a] (wr.drewN n) fun e w' => e = .returned (.tuple #[.int .u64 z1, .int .u64 s]) ∧ w' = wr.drewN n) := Lib.hid (fun n => mulWWW_any b m a z1 s _ hyl hm hxl hsc hs hz1)
      have HB : Hid (∀ W, Calls Tryz.prog 185 #[.int .u64 s, .int .u64 d, .int .u64 0] W fun e w' => e = .returned (.tuple #[.int .u64 l, .int .u64 cc]) ∧ W = w') := Lib.hid (fun W => bitsAdd0 s d l cc W hlc hll)
      have HZ : Hid (wv (xs.take (k + 1)) + wv (ys.take (k + 1)) * m + a0 = Z + 18446744073709551616 ^ k * l + 18446744073709551616 ^ (k + 1) * c) := Lib.hid (by
        rw [e1, e2, Nat.pow_succ, Nat.mul_assoc]
        have h0 : b * m + a + d = l + 18446744073709551616 * c := by omega
        have h1 : 18446744073709551616 ^ k * (b * m + a + d) = 18446744073709551616 ^ k * l + 18446744073709551616 ^ k * (18446744073709551616 * c) := by rw [h0, Nat.mul_add]
        rw [Nat.mul_add, Nat.mul_add, ← Nat.mul_assoc] at h1
        rw [Nat.add_mul]
        omega)
      have PUT := Lib.hid (fun n => (HREL.out.drewN (k := n)).put hkL hB hll)
      clear hrel e1 e2 ha hb hZ hsc hbm hlc hc
      go_wp2_with fail
      go_quiet ((go_at_call 235; exact Calls.quiet_of_same (HA.out _)))
      go_wp2_with fail
      refine (HB.out _).mono ?_
      rintro _ _ ⟨rfl, rfl⟩
      go_wp2
      exact ⟨⟨k + 1, c, _, by omega, by go_num, rfl, ⟨hc1, HZ.out⟩, PUT.out nq⟩, by simp [intOf]; omega⟩
    · have hkk : k = L := by omega
      have HD : Hid ((d < 18446744073709551616 ∧ wv xs + wv ys * m + a0 = wv (wdsN (wv xs + wv ys * m + a0) L) + 18446744073709551616 ^ L * d) ∧ VvP v L B (wv xs + wv ys * m + a0) w wr) := Lib.hid (by
        subst hkk
        rw [List.take_of_length_le (by rw [HXL.out]; exact Nat.le_refl _), List.take_of_length_le (by rw [HYL.out]; exact Nat.le_refl _)] at hZ
        have hZl : Z < 18446744073709551616 ^ k := by
          obtain ⟨os', ds, g1, g2, g3, g4, g5, g6, g7, g8⟩ := hrel
          have := wv_lt g5
          rw [g4] at this; omega
        refine ⟨⟨hd, ?_⟩, hrel.done d hZ⟩
        rw [wdsN_wv, hZ, Nat.add_mul_mod_self_left, Nat.mod_eq_of_lt hZl])
      clear hrel hZ HREL
      go_wp2
      go_ret
      exact ⟨d, rfl, HD.out⟩
set_option maxRecDepth 100000 in
theorem addMulVVWW_any (v x y : Value) (os : List Value) (xs ys : List Nat) (m a0 B : Nat) (w : World) (ho : Own w B 116 v os) (hx : RW w x xs) (hy : RW w y ys) (hlx : xs.length = os.length) (hly : ys.length = os.length)
    (hax : sBlk x = sBlk v → sOff v ≤ sOff x) (hay : sBlk y = sBlk v → sOff v ≤ sOff y) (hm : m < 18446744073709551616) (ha0 : a0 < 18446744073709551616) (hl : os.length ≤ 1000000000) :
    Calls Tryz.prog 201 #[v, x, y, .int .u64 m, .int .u64 a0] w fun e w' => ∃ c : Nat, e = .returned (.int .u64 c) ∧ (c < 18446744073709551616 ∧ wv xs + wv ys * m + a0 = wv (wdsN (wv xs + wv ys * m + a0) os.length) + 18446744073709551616 ^ os.length * c) ∧ VvP v os.length B (wv xs + wv ys * m + a0) w w' := by
  have hS := ho.isS
  have hSx := hx.isS
  have hSy := hy.isS
  have H := Lib.hid (addMulVVWW_g_any v x y os xs ys m a0 B w ho hx hy hlx hly hax hay hm ha0 hl)
  clear ho hx hy hlx hly hax hay hl
  go_enter Tryz.func201, Tryz.ntmps201
  go_wp2_with fail
  refine H.out.mono ?_
  rintro _ w1 ⟨c, rfl, h1, h2⟩
  have H1 := Lib.hid (And.intro h1 h2)
  clear h1 h2
  go_wp2
  go_ret
  exact ⟨c, rfl, H1.out⟩
end Go.Proofs.YtllhnjpnkmjopaaGreatDoor
