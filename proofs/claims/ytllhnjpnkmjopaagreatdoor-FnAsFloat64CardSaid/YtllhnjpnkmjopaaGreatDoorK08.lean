/-
Texts of this proof, joined: VvD VvE VvF VvG RnE. No condition.
-/
import Derived.Test.YtllhnjpnkmjopaaGreatDoorK05
import Derived.Test.YtllhnjpnkmjopaaGreatDoorK07
import Derived.Deep.DeepCutAuto
import Derived.Deep.CutBlock
namespace Go.Proofs.YtllhnjpnkmjopaaGreatDoor
open Go.RowKit

def Fr (z : Value) (w w' : World) : Prop := ∀ k, k < w.heap.size → (0 < sCap z → k ≠ sBlk z) → w'.heap[k]? = w.heap[k]?
theorem Fr.refl (z : Value) (w : World) : Fr z w w := fun _ _ _ => rfl
theorem Fr.trans {z : Value} {w1 w2 w3 : World} (h : Fr z w1 w2) (hs : w1.heap.size ≤ w2.heap.size) (k : Fr z w2 w3) : Fr z w1 w3 := fun i hi hn => (k i (by omega) hn).trans (h i hi hn)
theorem Fr.row {z : Value} {w w' : World} (h : Fr z w w') {k : Nat} {o : Obj} (hr : w.heap[k]? = some o) (hn : 0 < sCap z → k ≠ sBlk z) : w'.heap[k]? = some o := (h k (get_lt hr) hn).trans hr
def Al (z x : Value) : Prop := 0 < sCap z → sBlk x = sBlk z → sOff x = sOff z
theorem Al.nil (x : Value) : Al (.slice none 0 0) x := fun h => absurd h (by decide)
structure MkP (z r : Value) (n B : Nat) (w w' : World) : Prop where
  own : ∃ ys : List Value, ys.length = n ∧ Own w' B 116 r ys
  how : (w' = w ∧ r = subS z 0 n ∧ n ≤ sCap z) ∨ (w.heap.size ≤ sBlk r ∧ sOff r = 0 ∧ Below w.heap.size w w')
set_option maxRecDepth 100000 in
theorem make_any (z : Value) (zs : List Value) (n B : Nat) (w : World) (hz : Own w B 116 z zs) (hn : n ≤ 1000000000) (hB : B ≤ w.heap.size) :
    Calls Tryz.prog 152 #[z, .int .i64 n] w fun e w' => ∃ r, e = .returned r ∧ MkP z r n B w w' := by
  have hS := hz.isS
  by_cases hc : n ≤ sCap z
  · have t1 : decide ((n : Int) ≤ (sCap z : Int)) = true := decide_eq_true (by omega)
    have t1' : decide (n ≤ sCap z) = true := decide_eq_true hc
    obtain ⟨ys, h1, h2⟩ := hz.grow hc
    have Q : Hid (MkP z (subS z 0 n) n B w w) := Lib.hid ⟨⟨ys, h1, h2⟩, .inl ⟨rfl, rfl, hc⟩⟩
    have hS2 := h2.isS
    clear hz h1 h2
    go_enter Tryz.func152, Tryz.ntmps152
    go_wp2
    go_ret
    exact ⟨_, rfl, Q.out⟩
  · have t1 : decide ((n : Int) ≤ (sCap z : Int)) = false := decide_eq_false (by omega)
    have t1' : decide (n ≤ sCap z) = false := decide_eq_false hc
    have hn0 : 0 < n := by omega
    have HB := Lib.hid hB
    clear hz hc hB
    by_cases h1 : n = 1
    · subst h1
      have t2 : decide ((1 : Int) ≤ (sCap z : Int)) = false := t1
      go_enter Tryz.func152, Tryz.ntmps152
      go_wp2_with (at_make; refine wpList_make_O rfl _ _ _ rfl elemT .i64 .i64 _ _ rfl rfl w.heap.size ?c1 ?c2 ?c3 ?c4 ?c5 ?_)
      case c1 => omega
      case c2 => omega
      case c3 => omega
      case c4 => omega
      case c5 => exact Nat.le_refl _
      rintro v w1 rfl ho hb hz
      have Q := Lib.hid (⟨⟨_, by simp, ho.mono HB.out⟩, .inr ⟨by simp, by simp, hb⟩⟩ : MkP z (.slice (some ⟨w.heap.size, 0, none⟩) 1 1) 1 B w w1)
      clear ho hb
      go_wp2
      go_ret
      exact ⟨_, rfl, Q.out⟩
    · have t2 : ((n : Int) == 1) = false := by rw [beq_eq_false_iff_ne]; omega
      clear h1
      go_enter Tryz.func152, Tryz.ntmps152
      go_wp2_with (at_make; refine wpList_make_O rfl _ _ _ rfl elemT .i64 .i64 _ _ rfl rfl w.heap.size ?c1 ?c2 ?c3 ?c4 ?c5 ?_)
      case c1 => omega
      case c2 => omega
      case c3 => omega
      case c4 => omega
      case c5 => exact Nat.le_refl _
      rintro v w1 rfl ho hb hz
      have Q := Lib.hid (⟨⟨_, by simp, ho.mono HB.out⟩, .inr ⟨by simp, by simp, hb⟩⟩ : MkP z (.slice (some ⟨w.heap.size, 0, none⟩) n ((n : Int) + 4).toNat) n B w w1)
      clear ho hb
      go_wp2
      go_ret
      exact ⟨.slice (some ⟨w.heap.size, 0, none⟩) n ((n : Int) + 4).toNat, rfl, Q.out⟩
theorem MkP.below {z r : Value} {n B : Nat} {w w' : World} (h : MkP z r n B w w') : Below w.heap.size w w' := by
  rcases h.how with ⟨rfl, -⟩ | ⟨-, -, hb⟩
  · exact Below.refl _ _
  · exact hb
theorem MkP.al {z r x : Value} {n B : Nat} {xs : List Nat} {w w' : World} (h : MkP z r n B w w') (hz : IsS z) (hn : 0 < n) (ha : Al z x) (hx : RW w x xs) (hl : 0 < xs.length) : sBlk x = sBlk r → sOff x = sOff r := by
  rcases h.how with ⟨-, rfl, hc⟩ | ⟨h1, h2, -⟩
  · rw [subS_blk hz, subS_off0 hz]; exact ha (by omega)
  · intro he
    have := hx.ri.lt (by rw [ints_length]; exact hl)
    omega
theorem MkP.fr {z r : Value} {n B : Nat} {w w1 w2 : World} (h : MkP z r n B w w1) (hz : IsS z) (hn : 0 < n) (_hs : w1.heap.size ≤ w2.heap.size) (ho : Only (sBlk r) w1 w2) : Fr z w w2 := by
  intro k hk hne
  rcases h.how with ⟨rfl, rfl, hc⟩ | ⟨h1, h2, hb⟩
  · exact ho k hk (by rw [subS_blk hz]; exact hne (by omega))
  · exact (ho k (Nat.lt_of_lt_of_le hk hb.size) (by omega)).trans (hb.block k hk)
theorem FrB.ro {b lo hi : Nat} {w w' : World} {v : Value} {ws : List Nat} (h : FrB b lo hi w w') (hv : RO w v ws) (hn : sBlk v = b → sOff v + ws.length ≤ lo ∨ hi ≤ sOff v) : RO w' v ws := by
  refine ⟨h.rw hv.rw hn, fun hl => ?_⟩
  obtain ⟨c, hr⟩ := hv.row hl
  by_cases hb : sBlk v = b
  · obtain ⟨c', h1, -, -⟩ := h.row c _ (0, 0) (hb ▸ hr)
    exact ⟨c', hb ▸ h1⟩
  · exact ⟨c, (h.only _ (get_lt hr) hb).trans hr⟩
theorem RO.away {w : World} {x : Value} {xs : List Nat} {b i T : Nat} {cs : Array Value} {u : Value} (h : RO w x xs) (hr : w.heap[b]? = some (.cells cs T (0, 0))) (hT : T ≠ 116) : RO (w.setCell ⟨b, i, none⟩ u) x xs := by
  have hne : 0 < xs.length → sBlk x ≠ b := fun hl he => by
    obtain ⟨c, h1⟩ := h.row hl
    rw [he, hr] at h1
    exact hT (by injection (Option.some.inj h1))
  refine ⟨⟨⟨h.rw.isS, h.rw.ri.len, fun j hj => ?_⟩, h.rw.lt⟩, fun hl => ?_⟩
  · rw [cell_other (by simpa using fun he => hne (by rw [ints_length] at hj; omega) he.symm)]
    exact h.rw.ri.cell j hj
  · obtain ⟨c, h1⟩ := h.row hl
    exact ⟨c, (heap_setCell_other _ _ _ _ (by simpa using hne hl)).trans h1⟩
theorem RO.fr {w w' : World} {z x : Value} {xs : List Nat} (h : RO w x xs) (hf : Fr z w w') (hne : 0 < sCap z → sBlk x ≠ sBlk z) : RO w' x xs := by
  refine ⟨⟨⟨h.rw.isS, h.rw.ri.len, fun j hj => ?_⟩, h.rw.lt⟩, fun hl => ?_⟩
  · have hc := h.rw.ri.cell j hj
    exact (World.cell?_of_block (hf _ (World.block_lt_of_cell? w _ hc) hne)).trans hc
  · obtain ⟨c, h1⟩ := h.row hl
    exact ⟨c, hf.row h1 hne⟩
theorem MkP.at_ {z r : Value} {n B : Nat} {w w' : World} (h : MkP z r n B w w') (hz : IsS z) (hc : 0 < sCap r) : (0 < sCap z ∧ sBlk r = sBlk z) ∨ w.heap.size ≤ sBlk r := by
  rcases h.how with ⟨-, rfl, hn⟩ | ⟨h1, -, -⟩
  · rw [subS_cap hz, Nat.sub_zero] at hc
    exact .inl ⟨hc, subS_blk hz⟩
  · exact .inr h1
theorem MkP.atS {z r : Value} {n B k : Nat} {w w' : World} (h : MkP z r n B w w') (hz : IsS z) (hr : IsS r) (hc : 0 < sCap (subS r 0 k)) : (0 < sCap z ∧ sBlk (subS r 0 k) = sBlk z) ∨ w.heap.size ≤ sBlk (subS r 0 k) := by
  rw [subS_cap hr, Nat.sub_zero] at hc
  rw [subS_blk hr]
  exact h.at_ hz hc
set_option maxRecDepth 100000 in
theorem set_at (z x : Value) (zs : List Value) (xs : List Nat) (B : Nat) (w : World) (hz : Own w B 116 z zs) (hx : RW w x xs) (hl : xs.length ≤ 1000000000) (hB : B ≤ w.heap.size) :
    Calls Tryz.prog 135 #[z, x] w fun e w' => ∃ r, e = .returned r ∧ Own w' B 116 r (cellsW xs) ∧ Below B w w' ∧ Fr z w w' ∧ (0 < sCap r → (0 < sCap z ∧ sBlk r = sBlk z) ∨ w.heap.size ≤ sBlk r) := by
  have hS := hx.isS
  have hL := hx.len
  have hSz := hz.isS
  have HX := Lib.hid hx
  have HZ := Lib.hid hz
  have HB := Lib.hid hB
  clear hx hz hB
  go_enter Tryz.func135, Tryz.ntmps135
  go_wp2_with fail
  refine (make_any z zs xs.length B w HZ.out hl HB.out).mono ?_
  rintro _ w1 ⟨r, rfl, hm⟩
  obtain ⟨ys, hy, ho⟩ := hm.own
  have hSr := ho.isS
  have hLr : sLen r = xs.length := by rw [ho.len, hy]
  have HO := Lib.hid ho
  have HM := Lib.hid hm
  have HY := Lib.hid hy
  clear ho hm hy
  go_wp2_with (refine wpList_copy_W (o := ⟨some 11, _, _, _, _, _⟩) rfl (.tmp 9) (.tmp 10) 108 108 rfl 116 Tryz.underlying108 sizeW _ _ rfl rfl B ys HO.out (cellsW xs) ?d1 hS ?d2 ?d3 (cellsW_one xs) ?_)
  case d1 => rw [cellsW_length, HY.out]
  case d2 => rw [cellsW_length]; exact hL
  case d3 => exact (HX.out.below HM.out.below).at
  intro w2 ho2 hb2 hf2 hw2
  have hfr2 : Fr z w w2 := by
    rcases Nat.eq_zero_or_pos xs.length with h0 | h0
    · intro k hk hne
      rw [hw2 (by rw [show xs = [] from List.eq_nil_of_length_eq_zero h0]; rfl)]
      exact HM.out.below.block k hk
    · exact HM.out.fr hSz h0 hb2.size hf2.only
  have Q : Hid (Own w2 B 116 r (cellsW xs) ∧ Below B w w2 ∧ Fr z w w2 ∧ (0 < sCap r → (0 < sCap z ∧ sBlk r = sBlk z) ∨ w.heap.size ≤ sBlk r)) := Lib.hid ⟨ho2, (HM.out.below.mono HB.out).trans hb2, hfr2, fun hc => HM.out.at_ hSz hc⟩
  clear ho2 hb2 hf2 hw2 hfr2
  go_wp2
  go_ret
  exact ⟨_, rfl, Q.out⟩
structure NatR (z r : Value) (N B : Nat) (w w' : World) : Prop where
  own : Own w' B 116 r (cellsW (wds N))
  below : Below B w w'
  fr : Fr z w w'
  at' : 0 < sCap r → (0 < sCap z ∧ sBlk r = sBlk z) ∨ w.heap.size ≤ sBlk r
theorem sub0 {v : Value} {n : Nat} (hS : IsS v) : sBlk (subS v 0 n) = sBlk v ∧ sOff (subS v 0 n) = sOff v := ⟨subS_blk hS, subS_off0 hS⟩
theorem wv_wdsN_lt {Z n : Nat} (h : Z < 18446744073709551616 ^ n) : wv (wdsN Z n) = Z := by rw [wdsN_wv, Nat.mod_eq_of_lt h]
set_option maxRecDepth 100000 in
set_option maxHeartbeats 3200000 in
theorem nadd_core (z x y : Value) (zs : List Value) (xs ys : List Nat) (B : Nat) (w : World) (hz : Own w B 116 z zs) (hx : RO w x xs) (hy : RW w y ys) (ax : Al z x) (ay : Al z y) (hn0 : 0 < ys.length) (hnm : ys.length ≤ xs.length) (hl : xs.length ≤ 100000000) (hB : B ≤ w.heap.size) :
    Calls Tryz.prog 158 #[z, x, y] w fun e w' => ∃ r, e = .returned r ∧ NatR z r (wv xs + wv ys) B w w' := by
  have hS := hz.isS
  have hSx := hx.rw.isS
  have hSy := hy.isS
  obtain ⟨m, hm⟩ : ∃ m, m = xs.length := ⟨_, rfl⟩
  obtain ⟨n, hn⟩ : ∃ n, n = ys.length := ⟨_, rfl⟩
  have hLx : sLen x = m := by rw [hx.rw.len, hm]
  have hLy : sLen y = n := by rw [hy.len, hn]
  have hcx : m ≤ sCap x := by have := hSx.le; omega
  have hcy : n ≤ sCap y := by have := hSy.le; omega
  rw [← hn] at hn0 hnm
  rw [← hm] at hnm hl
  have t1 : decide ((m : Int) < (n : Int)) = false := decide_eq_false (by omega)
  have t2 : ((m : Int) == 0) = false := by rw [beq_eq_false_iff_ne]; omega
  have t3 : ((n : Int) == 0) = false := by rw [beq_eq_false_iff_ne]; omega
  have e1 : (m : Int) + 1 = ((m + 1 : Nat) : Int) := by omega
  obtain ⟨m1, hm1⟩ : ∃ m1, m1 = m + 1 := ⟨_, rfl⟩
  rw [← hm1] at e1
  have HM := Lib.hid hm
  have HN := Lib.hid hn
  have HZ := Lib.hid hz
  have HX := Lib.hid hx
  have HY := Lib.hid hy
  have HAX := Lib.hid ax
  have HAY := Lib.hid ay
  have HB := Lib.hid hB
  have HM1 := Lib.hid hm1
  have hm1b : m1 ≤ 1000000000 := by omega
  have hm1p : 0 < m1 := by omega
  have hmm1 : m < m1 := by omega
  have hnm1 : n ≤ m1 := by omega
  clear hz hx hy ax ay hB hm hn hm1
  go_enter Tryz.func158, Tryz.ntmps158
  go_wp2_with fail
  refine (make_any z zs m1 B w HZ.out hm1b HB.out).mono ?_
  rintro _ w1 ⟨r, rfl, hmk⟩
  obtain ⟨os, hos, hor⟩ := hmk.own
  have hSr := hor.isS
  have hLr : sLen r = m1 := by rw [hor.len, hos]
  have hcr : m1 ≤ sCap r := by have := hSr.le; omega
  have hcr0 : 0 < sCap r := by omega
  have hBr := (hor.lt hcr0).1
  have hX1 := HX.out.below hmk.below
  have hY1 := HY.out.below hmk.below
  have aX := hmk.al hS hm1p HAX.out HX.out.rw (by rw [← HM.out]; omega)
  have aY := hmk.al hS hm1p HAY.out HY.out (by rw [← HN.out]; exact hn0)
  have hSr0 : IsS (subS r 0 n) := subS_isS hSr (Nat.zero_le _) (by omega)
  have hSx0 : IsS (subS x 0 n) := subS_isS hSx (Nat.zero_le _) (by omega)
  have hSy0 : IsS (subS y 0 n) := subS_isS hSy (Nat.zero_le _) (by omega)
  have hsub := hor.sub (l := 0) (n := n) (Nat.zero_le _) (by omega)
  have hsl : ((os.take n).drop 0).length = n := by simp; omega
  have hxt := hX1.rw.take (n := n) (by rw [← HM.out]; exact hnm)
  have hyt := hY1.take (n := n) (by rw [← HN.out]; exact Nat.le_refl _)
  rw [List.take_of_length_le (by rw [← HN.out]; exact Nat.le_refl _)] at hyt
  have HADD : Hid (∀ k, Calls Tryz.prog 187 #[subS r 0 n, subS x 0 n, subS y 0 n] (w1.drewN k) fun e w' => ∃ c : Nat, e = .returned (.int .u64 c) ∧ (c ≤ 1 ∧ wv (xs.take n) + wv ys = wv (wdsN (wv (xs.take n) + wv ys) n) + 18446744073709551616 ^ n * c) ∧ VvP (subS r 0 n) n B (wv (xs.take n) + wv ys) w1 w') := Lib.hid (fun k => by
    have := addVV_any (subS r 0 n) (subS x 0 n) (subS y 0 n) ((os.take n).drop 0) (xs.take n) ys B (w1.drewN k) (hsub.drewN k) (hxt.below (undrewN' (Below.refl _ _))) (hyt.below (undrewN' (Below.refl _ _))) (by rw [hsl, List.length_take, ← HM.out]; omega) (by rw [hsl, ← HN.out]) (by rw [(sub0 hSx).1, (sub0 hSr).1, (sub0 hSx).2, (sub0 hSr).2]; intro h; rw [aX h]; exact Nat.le_refl _)
      (by rw [(sub0 hSy).1, (sub0 hSr).1, (sub0 hSy).2, (sub0 hSr).2]; intro h; rw [aY h]; exact Nat.le_refl _) (by rw [hsl]; omega)
    rw [hsl] at this
    refine this.mono ?_
    rintro _ w' ⟨c, rfl, h1, h2, h3, h4⟩
    exact ⟨c, rfl, h1, h2, undrewN h3, h4.undrewN⟩)
  have HOR := Lib.hid hor
  have HOS := Lib.hid hos
  have HMK := Lib.hid hmk
  have HX1 := Lib.hid hX1
  have HAXR := Lib.hid aX
  clear hor hos hmk hX1 hY1 aX aY hsub hsl hxt hyt
  go_wp2_with fail
  (refine wp_region_hoist 9 (by kernel_rfl) (by kernel_rfl) ⟨fun _ _ _ h => (by first | exact (hQp _ _ _ h).elim | cases h.2.1 | (obtain ⟨_, h3, _⟩ := h.2; cases h3)), fun _ _ h => (by first | exact (hQo _ _ h).elim | cases h.1 | (obtain ⟨_, h3, _⟩ := h; cases h3))⟩ ?_; simp only [List.take_succ_cons, List.take_zero, List.drop_succ_cons, List.drop_zero]; (repeat (go_big_quiet_step (fail))); refine wpQuiet_nil ?_; rintro _ ⟨nq, rfl⟩)
  go_wp2_with fail
  refine (HADD.out _).mono ?_
  rintro _ w2 ⟨c, rfl, ⟨hc1, hcs⟩, hvp⟩
  have hpt := VvP.patch (l := 0) (n := n) HOR.out (Nat.zero_le _) (by rw [HOS.out]; exact hnm1) hvp
  rw [List.take_zero, List.nil_append, Nat.sub_zero] at hpt
  have HCS := Lib.hid hcs
  have HPT := Lib.hid hpt
  clear hcs hpt hvp
  by_cases hmn : n < m
  · have t4 : decide ((n : Int) < (m : Int)) = true := decide_eq_true (by omega)
    have t4' : decide (n < m) = true := decide_eq_true hmn
    obtain ⟨ho2, hb2, hf2⟩ := HPT.out
    have hSr1 : IsS (subS r n m) := subS_isS hSr hnm (by omega)
    have hSx1 : IsS (subS x n m) := subS_isS hSx hnm hcx
    have hsub := ho2.sub (l := n) (n := m) hnm (by simp [cellsW_length, wdsN_length]; rw [HOS.out]; omega)
    have hsl : (((cellsW (wdsN (wv (xs.take n) + wv ys) n) ++ os.drop n).take m).drop n).length = m - n := by simp [cellsW_length, wdsN_length]; rw [HOS.out]; omega
    have hxd : RO w2 (subS x n m) (xs.drop n) := by
      have h1 := HX1.out.drop (n := n) (by rw [← HM.out]; exact hnm)
      rw [← HM.out] at h1
      refine hf2.ro h1 fun hb => .inr ?_
      rw [subS_blk hSx] at hb
      rw [subS_off hSx (by omega), HAXR.out hb]; omega
    have HADW : Hid (∀ k, Calls Tryz.prog 154 #[subS r n m, subS x n m, .int .u64 c] (w2.drewN k) fun e w' => ∃ d : Nat, e = .returned (.int .u64 d) ∧ ∃ Z, d ≤ 1 ∧ Z < 18446744073709551616 ^ (m - n) ∧ wv (xs.drop n) + c = Z + 18446744073709551616 ^ (m - n) * d ∧ VvP (subS r n m) (m - n) B Z w2 w') := Lib.hid (fun k => by
      have := addVW_gen (subS r n m) (subS x n m) _ (xs.drop n) c B (w2.drewN k) (hsub.drewN k) (hxd.below (undrewN' (Below.refl _ _))) (by rw [hsl, List.length_drop, ← HM.out]) (by rw [subS_blk hSx, subS_blk hSr]; intro h; rw [subS_off hSx (by omega), subS_off hSr (by omega), HAXR.out h]) (by rw [hsl]; omega) (by rw [hsl]; omega) (by omega)
      rw [hsl] at this
      refine this.mono ?_
      rintro _ w' ⟨d, rfl, Z, h1, h2, h3, h4, h5, h6⟩
      exact ⟨d, rfl, Z, h1, h2, h3, h4, undrewN h5, h6.undrewN⟩)
    have HO2 := Lib.hid ho2
    have HB2 := Lib.hid hb2
    have HF2 := Lib.hid hf2
    clear ho2 hb2 hf2 hsub hsl hxd HPT
    go_wp2_with fail
    (refine wp_region_hoist 8 (by kernel_rfl) (by kernel_rfl) ⟨fun _ _ _ h => (by first | exact (hQp _ _ _ h).elim | cases h.2.1 | (obtain ⟨_, h3, _⟩ := h.2; cases h3)), fun _ _ h => (by first | exact (hQo _ _ h).elim | cases h.1 | (obtain ⟨_, h3, _⟩ := h; cases h3))⟩ ?_; simp only [List.take_succ_cons, List.take_zero, List.drop_succ_cons, List.drop_zero]; (repeat (go_big_quiet_step (fail))); refine wpQuiet_nil ?_; rintro _ ⟨nq, rfl⟩)
    go_wp2_with fail
    refine (HADW.out _).mono ?_
    rintro _ w3 ⟨d, rfl, Z, hd1, hZl, hZ, hvp⟩
    have hpt := VvP.patch (l := n) (n := m) HO2.out hnm (by simp [cellsW_length, wdsN_length]; rw [HOS.out]; omega) hvp
    obtain ⟨ho3, hb3, hf3⟩ := hpt
    have hle : (cellsW (wdsN (wv (xs.take n) + wv ys) n)).length = n := by rw [cellsW_length, wdsN_length]
    have e2 : (cellsW (wdsN (wv (xs.take n) + wv ys) n) ++ os.drop n).take n = cellsW (wdsN (wv (xs.take n) + wv ys) n) := List.take_left' hle
    have e3 : (cellsW (wdsN (wv (xs.take n) + wv ys) n) ++ os.drop n).drop m = os.drop m := by
      rw [show m = n + (m - n) by omega, ← List.drop_drop, List.drop_left' hle, List.drop_drop]
    rw [e2, e3] at ho3
    have hset := ho3.set (i := m) (by simp [cellsW_length, wdsN_length]; rw [HOS.out]; omega) (.int .u64 (d : Int))
    have e4 : (cellsW (wdsN (wv (xs.take n) + wv ys) n) ++ (cellsW (wdsN Z (m - n)) ++ os.drop m)).set m (.int .u64 (d : Int)) = cellsW (wdsN (wv (xs.take n) + wv ys) n ++ (wdsN Z (m - n) ++ [d])) := by
      obtain ⟨u, hu⟩ : ∃ u, os.drop m = [u] := by
        have h1 : (os.drop m).length = 1 := by rw [List.length_drop, HOS.out]; have := HM1.out; omega
        match h : os.drop m, h1 with
        | [u], _ => exact ⟨u, rfl⟩
      rw [hu, List.set_append_right _ _ (by omega), hle, List.set_append_right _ _ (by rw [cellsW_length, wdsN_length]; exact Nat.le_refl _), cellsW_length, wdsN_length, Nat.sub_self, ← cellsW_append, ← cellsW_append]
      rfl
    rw [e4] at hset
    have hnum : wv (wdsN (wv (xs.take n) + wv ys) n ++ (wdsN Z (m - n) ++ [d])) = wv xs + wv ys := by
      rw [wv_append, wdsN_length, wv_append, wdsN_length, wv_wdsN_lt hZl, show wv [d] = d by simp [wv], ← hZ, wv_split xs n (by rw [← HM.out]; exact hnm), Nat.mul_add]
      have := HCS.out
      omega
    have hlt : ∀ e ∈ wdsN (wv (xs.take n) + wv ys) n ++ (wdsN Z (m - n) ++ [d]), e < 18446744073709551616 := by
      intro e he
      rcases List.mem_append.1 he with h | h
      · exact wdsN_lt e h
      · rcases List.mem_append.1 h with h | h
        · exact wdsN_lt e h
        · rw [List.mem_singleton] at h; omega
    have cm : ∃ u, w3.cell? ⟨sBlk r, sOff r + m, none⟩ = some u := ⟨_, ho3.cell (List.getElem?_eq_getElem (by simp [cellsW_length, wdsN_length]; rw [HOS.out]; omega))⟩
    obtain ⟨u, cm⟩ := cm
    have fz := ho3.frozen hcr0 (sOff r + m)
    have hB3 := bset (i := sOff r + m) (u := .int .u64 (d : Int)) (HB2.out.trans hb3) hBr
    have hF3 : Only (sBlk r) w1 (w3.setCell ⟨sBlk r, sOff r + m, none⟩ (.int .u64 (d : Int))) := fun k hk hne => by
      rw [heap_setCell_other _ _ _ _ (by simpa using hne), hf3.only k (Nat.lt_of_lt_of_le hk HB2.out.size) hne]; exact HF2.out.only k hk hne
    have Q : Hid (NatR z (subS r 0 (nw (wv xs + wv ys))) (wv xs + wv ys) B w (w3.setCell ⟨sBlk r, sOff r + m, none⟩ (.int .u64 (d : Int)))) := Lib.hid (by
      have h1 := hset.takeW hlt
      rw [hnum] at h1
      exact ⟨h1, (HMK.out.below.mono HB.out).trans hB3, HMK.out.fr hS hm1p hB3.size hF3, fun hc => HMK.out.atS hS hSr hc⟩)
    have HNM := Lib.hid (norm_any r _ (w3.setCell ⟨sBlk r, sOff r + m, none⟩ (.int .u64 (d : Int))) (hset.rw' hlt) (by simp [wdsN_length]; omega))
    rw [hnum] at HNM
    have hSq := Q.out.own.isS
    clear ho3 hb3 hf3 hle e2 e3 hset e4 hnum hlt hvp hZ hB3 hF3 HADW HADD
    go_wp2_with fail
    refine HNM.out.mono ?_
    rintro _ _ ⟨rfl, rfl⟩
    go_wp2
    go_ret
    exact ⟨_, rfl, Q.out⟩
  · have hmn2 : m = n := by omega
    have t4 : decide ((n : Int) < (m : Int)) = false := decide_eq_false (by omega)
    have t4' : decide (n < m) = false := decide_eq_false hmn
    obtain ⟨ho2, hb2, hf2⟩ := HPT.out
    have hle : (cellsW (wdsN (wv (xs.take n) + wv ys) n)).length = n := by rw [cellsW_length, wdsN_length]
    have hset := ho2.set (i := m) (by simp [cellsW_length, wdsN_length]; rw [HOS.out]; omega) (.int .u64 (c : Int))
    have e4 : (cellsW (wdsN (wv (xs.take n) + wv ys) n) ++ os.drop n).set m (.int .u64 (c : Int)) = cellsW (wdsN (wv (xs.take n) + wv ys) n ++ [c]) := by
      obtain ⟨u, hu⟩ : ∃ u, os.drop n = [u] := by
        have h1 : (os.drop n).length = 1 := by rw [List.length_drop, HOS.out]; have := HM1.out; omega
        match h : os.drop n, h1 with
        | [u], _ => exact ⟨u, rfl⟩
      rw [hu, List.set_append_right _ _ (by omega), hle, show m - n = 0 by omega, ← cellsW_append]
      rfl
    rw [e4] at hset
    have hnum : wv (wdsN (wv (xs.take n) + wv ys) n ++ [c]) = wv xs + wv ys := by
      have := HCS.out
      rw [wv_append, wdsN_length, show wv [c] = c by simp [wv], ← this, List.take_of_length_le (by rw [← HM.out]; omega)]
    have hlt : ∀ e ∈ wdsN (wv (xs.take n) + wv ys) n ++ [c], e < 18446744073709551616 := by
      intro e he
      rcases List.mem_append.1 he with h | h
      · exact wdsN_lt e h
      · rw [List.mem_singleton] at h; omega
    obtain ⟨u, cm⟩ : ∃ u, w2.cell? ⟨sBlk r, sOff r + m, none⟩ = some u := ⟨_, ho2.cell (List.getElem?_eq_getElem (by simp [cellsW_length, wdsN_length]; rw [HOS.out]; omega))⟩
    have fz := ho2.frozen hcr0 (sOff r + m)
    have hB3 := bset (i := sOff r + m) (u := .int .u64 (c : Int)) hb2 hBr
    have hF3 : Only (sBlk r) w1 (w2.setCell ⟨sBlk r, sOff r + m, none⟩ (.int .u64 (c : Int))) := fun k hk hne => by
      rw [heap_setCell_other _ _ _ _ (by simpa using hne)]; exact hf2.only k hk hne
    have Q : Hid (NatR z (subS r 0 (nw (wv xs + wv ys))) (wv xs + wv ys) B w (w2.setCell ⟨sBlk r, sOff r + m, none⟩ (.int .u64 (c : Int)))) := Lib.hid (by
      have h1 := hset.takeW hlt
      rw [hnum] at h1
      exact ⟨h1, (HMK.out.below.mono HB.out).trans hB3, HMK.out.fr hS hm1p hB3.size hF3, fun hc => HMK.out.atS hS hSr hc⟩)
    have HNM := Lib.hid (norm_any r _ (w2.setCell ⟨sBlk r, sOff r + m, none⟩ (.int .u64 (c : Int))) (hset.rw' hlt) (by simp [wdsN_length]; omega))
    rw [hnum] at HNM
    have hSq := Q.out.own.isS
    clear ho2 hb2 hf2 hle hset e4 hnum hlt hB3 hF3 HADD HPT hmn hmn2
    go_wp2_with fail
    refine HNM.out.mono ?_
    rintro _ _ ⟨rfl, rfl⟩
    go_wp2
    go_ret
    exact ⟨_, rfl, Q.out⟩
theorem wds_zero : wds 0 = [] := rfl
theorem NatR.ofSet {z r : Value} {N B : Nat} {w w' : World} (h : Own w' B 116 r (cellsW (wds N)) ∧ Below B w w' ∧ Fr z w w' ∧ (0 < sCap r → (0 < sCap z ∧ sBlk r = sBlk z) ∨ w.heap.size ≤ sBlk r)) : NatR z r N B w w' := ⟨h.1, h.2.1, h.2.2.1, h.2.2.2⟩
set_option maxRecDepth 100000 in
set_option maxHeartbeats 1600000 in
theorem nadd_ge (z x y : Value) (zs : List Value) (X Y B : Nat) (w : World) (hz : Own w B 116 z zs) (hx : RO w x (wds X)) (hy : RO w y (wds Y)) (ax : Al z x) (ay : Al z y) (hnm : nw Y ≤ nw X) (hl : nw X ≤ 100000000) (hB : B ≤ w.heap.size) :
    Calls Tryz.prog 158 #[z, x, y] w fun e w' => ∃ r, e = .returned r ∧ NatR z r (X + Y) B w w' := by
  have hS := hz.isS
  have hSx := hx.rw.isS
  have hSy := hy.rw.isS
  have hLx : sLen x = nw X := by rw [hx.rw.len, wds_length]
  have hLy : sLen y = nw Y := by rw [hy.rw.len, wds_length]
  rcases Nat.eq_zero_or_pos (nw Y) with h0 | h0
  · have hY0 := nw_eq_zero.1 h0
    have t1 : decide ((nw X : Int) < (nw Y : Int)) = false := decide_eq_false (by omega)
    have hLy0 : sLen y = 0 := by rw [hLy, h0]
    rcases Nat.eq_zero_or_pos (nw X) with g0 | g0
    · have hX0 := nw_eq_zero.1 g0
      have hLx0 : sLen x = 0 := by rw [hLx, g0]
      have Q : Hid (NatR z (subS z 0 0) (X + Y) B w w) := Lib.hid (by
        rw [hX0, hY0]
        exact ⟨by have := hz.sub (l := 0) (n := 0) (Nat.le_refl _) (Nat.zero_le _); simpa [cellsW, wds_zero] using this, Below.refl _ _, Fr.refl _ _, fun hc => .inl ⟨by rw [subS_cap hz.isS] at hc; exact hc, subS_blk hz.isS⟩⟩)
      have hSq := Q.out.own.isS
      have hc0 : 0 ≤ sCap z := Nat.zero_le _
      clear hz hx hy ax ay hLx hLy h0 g0 hX0 hY0 t1 hl hnm
      go_enter Tryz.func158, Tryz.ntmps158
      go_wp2
      go_ret
      exact ⟨_, rfl, Q.out⟩
    · obtain ⟨m, hm⟩ : ∃ m, m = nw X := ⟨_, rfl⟩
      rw [← hm] at hLx g0
      have t2 : ((m : Int) == 0) = false := by rw [beq_eq_false_iff_ne]; omega
      have t3 : decide ((m : Int) < 0) = false := decide_eq_false (by omega)
      have HS : Hid (Calls Tryz.prog 135 #[z, x] w fun e w' => ∃ r, e = .returned r ∧ NatR z r (X + Y) B w w') := Lib.hid (by
        refine (set_at z x zs (wds X) B w hz hx.rw (by rw [wds_length]; omega) hB).mono ?_
        rintro _ w' ⟨r, rfl, h⟩
        exact ⟨r, rfl, by rw [hY0, Nat.add_zero]; exact .ofSet h⟩)
      clear hz hx hy ax ay hLy h0 hY0 t1 hm hl hnm
      go_enter Tryz.func158, Tryz.ntmps158
      go_wp2_with fail
      refine HS.out.mono ?_
      rintro _ w1 ⟨r, rfl, h⟩
      have Q := Lib.hid h
      have hSq := h.own.isS
      clear h
      go_wp2
      go_ret
      exact ⟨_, rfl, Q.out⟩
  · have := nadd_core z x y zs (wds X) (wds Y) B w hz hx hy.rw ax ay (by rw [wds_length]; exact h0) (by rw [wds_length, wds_length]; exact hnm) (by rw [wds_length]; exact hl) hB
    rw [wv_wds, wv_wds] at this
    exact this
set_option maxRecDepth 100000 in
theorem nadd_any (z x y : Value) (zs : List Value) (X Y B : Nat) (w : World) (hz : Own w B 116 z zs) (hx : RO w x (wds X)) (hy : RO w y (wds Y)) (ax : Al z x) (ay : Al z y) (hl : nw X ≤ 100000000) (hl2 : nw Y ≤ 100000000) (hB : B ≤ w.heap.size) :
    Calls Tryz.prog 158 #[z, x, y] w fun e w' => ∃ r, e = .returned r ∧ NatR z r (X + Y) B w w' := by
  by_cases h : nw Y ≤ nw X
  · exact nadd_ge z x y zs X Y B w hz hx hy ax ay h hl hB
  · have HR := Lib.hid (nadd_ge z y x zs Y X B w hz hy hx ay ax (by omega) hl2 hB)
    have hS := hz.isS
    have hSx := hx.rw.isS
    have hSy := hy.rw.isS
    have hLx : sLen x = nw X := by rw [hx.rw.len, wds_length]
    have hLy : sLen y = nw Y := by rw [hy.rw.len, wds_length]
    obtain ⟨m, hm⟩ : ∃ m, m = nw X := ⟨_, rfl⟩
    obtain ⟨n, hn⟩ : ∃ n, n = nw Y := ⟨_, rfl⟩
    rw [← hm] at hLx h
    rw [← hn] at hLy h
    rw [Nat.add_comm] at HR
    have t1 : decide ((m : Int) < (n : Int)) = true := decide_eq_true (by omega)
    have t1' : decide (m < n) = true := decide_eq_true (by omega)
    clear hz hx hy ax ay hm hn h
    go_enter Tryz.func158, Tryz.ntmps158
    go_wp2_with fail
    refine HR.out.mono ?_
    rintro _ w1 ⟨r, rfl, h⟩
    have Q := Lib.hid h
    have hSq := h.own.isS
    clear h
    go_wp2
    go_ret
    exact ⟨_, rfl, Q.out⟩
set_option maxRecDepth 100000 in
set_option maxHeartbeats 3200000 in
theorem nsub_core (z x y : Value) (zs : List Value) (xs ys : List Nat) (B : Nat) (w : World) (hz : Own w B 116 z zs) (hx : RO w x xs) (hy : RW w y ys) (ax : Al z x) (ay : Al z y) (hn0 : 0 < ys.length) (hnm : ys.length ≤ xs.length) (hge : wv ys ≤ wv xs) (hl : xs.length ≤ 100000000) (hB : B ≤ w.heap.size) :
    Calls Tryz.prog 160 #[z, x, y] w fun e w' => ∃ r, e = .returned r ∧ NatR z r (wv xs - wv ys) B w w' := by
  have hS := hz.isS
  have hSx := hx.rw.isS
  have hSy := hy.isS
  obtain ⟨m, hm⟩ : ∃ m, m = xs.length := ⟨_, rfl⟩
  obtain ⟨n, hn⟩ : ∃ n, n = ys.length := ⟨_, rfl⟩
  have hLx : sLen x = m := by rw [hx.rw.len, hm]
  have hLy : sLen y = n := by rw [hy.len, hn]
  have hcx : m ≤ sCap x := by have := hSx.le; omega
  have hcy : n ≤ sCap y := by have := hSy.le; omega
  rw [← hn] at hn0 hnm
  rw [← hm] at hnm hl
  have t1 : decide ((m : Int) < (n : Int)) = false := decide_eq_false (by omega)
  have t2 : ((m : Int) == 0) = false := by rw [beq_eq_false_iff_ne]; omega
  have t3 : ((n : Int) == 0) = false := by rw [beq_eq_false_iff_ne]; omega
  have hm1p : 0 < m := by omega
  have HM := Lib.hid hm
  have HN := Lib.hid hn
  have HZ := Lib.hid hz
  have HX := Lib.hid hx
  have HY := Lib.hid hy
  have HAX := Lib.hid ax
  have HAY := Lib.hid ay
  have HB := Lib.hid hB
  have HGE := Lib.hid hge
  clear hz hx hy ax ay hB hm hn hge
  go_enter Tryz.func160, Tryz.ntmps160
  go_wp2_with fail
  refine (make_any z zs m B w HZ.out (by omega) HB.out).mono ?_
  rintro _ w1 ⟨r, rfl, hmk⟩
  obtain ⟨os, hos, hor⟩ := hmk.own
  have hSr := hor.isS
  have hLr : sLen r = m := by rw [hor.len, hos]
  have hcr : m ≤ sCap r := by have := hSr.le; omega
  have hcr0 : 0 < sCap r := by omega
  have hBr := (hor.lt hcr0).1
  have hX1 := HX.out.below hmk.below
  have hY1 := HY.out.below hmk.below
  have aX := hmk.al hS hm1p HAX.out HX.out.rw (by rw [← HM.out]; omega)
  have aY := hmk.al hS hm1p HAY.out HY.out (by rw [← HN.out]; exact hn0)
  have hSr0 : IsS (subS r 0 n) := subS_isS hSr (Nat.zero_le _) (by omega)
  have hSx0 : IsS (subS x 0 n) := subS_isS hSx (Nat.zero_le _) (by omega)
  have hSy0 : IsS (subS y 0 n) := subS_isS hSy (Nat.zero_le _) (by omega)
  have hsub := hor.sub (l := 0) (n := n) (Nat.zero_le _) (by omega)
  have hsl : ((os.take n).drop 0).length = n := by simp; omega
  have hxt := hX1.rw.take (n := n) (by rw [← HM.out]; exact hnm)
  have hyt := hY1.take (n := n) (by rw [← HN.out]; exact Nat.le_refl _)
  rw [List.take_of_length_le (by rw [← HN.out]; exact Nat.le_refl _)] at hyt
  have HSUB : Hid (∀ k, Calls Tryz.prog 188 #[subS r 0 n, subS x 0 n, subS y 0 n] (w1.drewN k) fun e w' => ∃ c : Nat, e = .returned (.int .u64 c) ∧ ∃ Z, c ≤ 1 ∧ Z < 18446744073709551616 ^ n ∧ wv (xs.take n) + 18446744073709551616 ^ n * c = Z + wv ys ∧ VvP (subS r 0 n) n B Z w1 w') := Lib.hid (fun k => by
    have := subVV_any (subS r 0 n) (subS x 0 n) (subS y 0 n) ((os.take n).drop 0) (xs.take n) ys B (w1.drewN k) (hsub.drewN k) (hxt.below (undrewN' (Below.refl _ _))) (hyt.below (undrewN' (Below.refl _ _))) (by rw [hsl, List.length_take, ← HM.out]; omega) (by rw [hsl, ← HN.out]) (by rw [(sub0 hSx).1, (sub0 hSr).1, (sub0 hSx).2, (sub0 hSr).2]; intro h; rw [aX h]; exact Nat.le_refl _)
      (by rw [(sub0 hSy).1, (sub0 hSr).1, (sub0 hSy).2, (sub0 hSr).2]; intro h; rw [aY h]; exact Nat.le_refl _) (by rw [hsl]; omega)
    rw [hsl] at this
    refine this.mono ?_
    rintro _ w' ⟨c, rfl, Z, h1, h2, h3, h4, h5, h6⟩
    exact ⟨c, rfl, Z, h1, h2, h3, h4, undrewN h5, h6.undrewN⟩)
  have HOR := Lib.hid hor
  have HOS := Lib.hid hos
  have HMK := Lib.hid hmk
  have HX1 := Lib.hid hX1
  have HAXR := Lib.hid aX
  clear hor hos hmk hX1 hY1 aX aY hsub hsl hxt hyt
  go_wp2_with fail
  (refine wp_region_hoist 9 (by kernel_rfl) (by kernel_rfl) ⟨fun _ _ _ h => (by first | exact (hQp _ _ _ h).elim | cases h.2.1 | (obtain ⟨_, h3, _⟩ := h.2; cases h3)), fun _ _ h => (by first | exact (hQo _ _ h).elim | cases h.1 | (obtain ⟨_, h3, _⟩ := h; cases h3))⟩ ?_; simp only [List.take_succ_cons, List.take_zero, List.drop_succ_cons, List.drop_zero]; (repeat (go_big_quiet_step (fail))); refine wpQuiet_nil ?_; rintro _ ⟨nq, rfl⟩)
  go_wp2_with fail
  refine (HSUB.out _).mono ?_
  rintro _ w2 ⟨c, rfl, Z1, hc1, hZ1l, hcs, hvp⟩
  have hpt := VvP.patch (l := 0) (n := n) HOR.out (Nat.zero_le _) (by rw [HOS.out]; exact hnm) hvp
  rw [List.take_zero, List.nil_append, Nat.sub_zero] at hpt
  have HCS := Lib.hid hcs
  have HPT := Lib.hid hpt
  have HZ1 := Lib.hid hZ1l
  clear hcs hpt hvp hZ1l
  by_cases hmn : n < m
  · have t4 : decide ((n : Int) < (m : Int)) = true := decide_eq_true (by omega)
    have t4' : decide (n < m) = true := decide_eq_true hmn
    obtain ⟨ho2, hb2, hf2⟩ := HPT.out
    have hSr1 : IsS (subS r n m) := subS_isS hSr hnm (by omega)
    have hSx1 : IsS (subS x n m) := subS_isS hSx hnm hcx
    have hsub := ho2.sub (l := n) (n := m) hnm (by simp [cellsW_length, wdsN_length]; rw [HOS.out]; omega)
    have hsl : (((cellsW (wdsN Z1 n) ++ os.drop n).take m).drop n).length = m - n := by simp [cellsW_length, wdsN_length]; rw [HOS.out]; omega
    have hxd : RO w2 (subS x n m) (xs.drop n) := by
      have h1 := HX1.out.drop (n := n) (by rw [← HM.out]; exact hnm)
      rw [← HM.out] at h1
      refine hf2.ro h1 fun hb => .inr ?_
      rw [subS_blk hSx] at hb
      rw [subS_off hSx (by omega), HAXR.out hb]; omega
    have HSBW : Hid (∀ k, Calls Tryz.prog 189 #[subS r n m, subS x n m, .int .u64 c] (w2.drewN k) fun e w' => ∃ d : Nat, e = .returned (.int .u64 d) ∧ ∃ Z, d ≤ 1 ∧ Z < 18446744073709551616 ^ (m - n) ∧ wv (xs.drop n) + 18446744073709551616 ^ (m - n) * d = Z + c ∧ VvP (subS r n m) (m - n) B Z w2 w') := Lib.hid (fun k => by
      have := subVW_gen (subS r n m) (subS x n m) _ (xs.drop n) c B (w2.drewN k) (hsub.drewN k) (hxd.below (undrewN' (Below.refl _ _))) (by rw [hsl, List.length_drop, ← HM.out]) (by rw [subS_blk hSx, subS_blk hSr]; intro h; rw [subS_off hSx (by omega), subS_off hSr (by omega), HAXR.out h]) (by rw [hsl]; omega) (by rw [hsl]; omega) (by omega)
      rw [hsl] at this
      refine this.mono ?_
      rintro _ w' ⟨d, rfl, Z, h1, h2, h3, h4, h5, h6⟩
      exact ⟨d, rfl, Z, h1, h2, h3, h4, undrewN h5, h6.undrewN⟩)
    have HO2 := Lib.hid ho2
    have HB2 := Lib.hid hb2
    have HF2 := Lib.hid hf2
    clear ho2 hb2 hf2 hsub hsl hxd HPT
    go_wp2_with fail
    (refine wp_region_hoist 7 (by kernel_rfl) (by kernel_rfl) ⟨fun _ _ _ h => (by first | exact (hQp _ _ _ h).elim | cases h.2.1 | (obtain ⟨_, h3, _⟩ := h.2; cases h3)), fun _ _ h => (by first | exact (hQo _ _ h).elim | cases h.1 | (obtain ⟨_, h3, _⟩ := h; cases h3))⟩ ?_; simp only [List.take_succ_cons, List.take_zero, List.drop_succ_cons, List.drop_zero]; (repeat (go_big_quiet_step (fail))); refine wpQuiet_nil ?_; rintro _ ⟨nq, rfl⟩)
    go_wp2_with fail
    refine (HSBW.out _).mono ?_
    rintro _ w3 ⟨d, rfl, Z, hd1, hZl, hZ, hvp⟩
    have hpt := VvP.patch (l := n) (n := m) HO2.out hnm (by simp [cellsW_length, wdsN_length]; rw [HOS.out]; omega) hvp
    obtain ⟨ho3, hb3, hf3⟩ := hpt
    have hle : (cellsW (wdsN Z1 n)).length = n := by rw [cellsW_length, wdsN_length]
    have e2 : (cellsW (wdsN Z1 n) ++ os.drop n).take n = cellsW (wdsN Z1 n) := List.take_left' hle
    have e3 : (cellsW (wdsN Z1 n) ++ os.drop n).drop m = [] := List.drop_of_length_le (by rw [List.length_append, hle, List.length_drop, HOS.out]; omega)
    rw [e2, e3, List.append_nil, cellsW_append] at ho3
    have hsum := wv_split xs n (by rw [← HM.out]; exact hnm)
    have hpow : 18446744073709551616 ^ n * 18446744073709551616 ^ (m - n) = 18446744073709551616 ^ m := by rw [← Nat.pow_add]; congr 1; omega
    have hyl := wv_lt (HY.out.lt)
    have hd0 : d = 0 := by
      rcases (by omega : d = 0 ∨ d = 1) with h | h
      · exact h
      · exfalso
        have h1 := HCS.out; have h2 := HGE.out
        have h3 : 18446744073709551616 ^ n * (wv (xs.drop n) + 18446744073709551616 ^ (m - n) * d) = 18446744073709551616 ^ n * (Z + c) := by rw [hZ]
        rw [Nat.mul_add, ← Nat.mul_assoc, hpow, Nat.mul_add, h, Nat.mul_one] at h3
        have h4 := join_lt HZ1.out hnm hZl
        omega
    subst hd0
    have hnum : wv (wdsN Z1 n ++ wdsN Z (m - n)) = wv xs - wv ys := by
      rw [wv_append, wdsN_length, wv_wdsN_lt HZ1.out, wv_wdsN_lt hZl]
      have h1 := HCS.out
      have h3 : 18446744073709551616 ^ n * (wv (xs.drop n) + 18446744073709551616 ^ (m - n) * 0) = 18446744073709551616 ^ n * (Z + c) := by rw [hZ]
      rw [Nat.mul_zero, Nat.add_zero, Nat.mul_add] at h3
      omega
    have hlt : ∀ e ∈ wdsN Z1 n ++ wdsN Z (m - n), e < 18446744073709551616 := by
      intro e he
      rcases List.mem_append.1 he with h | h
      · exact wdsN_lt e h
      · exact wdsN_lt e h
    have hB3 := HB2.out.trans hb3
    have hF3 : Only (sBlk r) w1 w3 := HF2.out.only.trans HB2.out.size hf3.only
    have Q : Hid (NatR z (subS r 0 (nw (wv xs - wv ys))) (wv xs - wv ys) B w w3) := Lib.hid (by
      have h1 := ho3.takeW hlt
      rw [hnum] at h1
      exact ⟨h1, (HMK.out.below.mono HB.out).trans hB3, HMK.out.fr hS hm1p hB3.size hF3, fun hc => HMK.out.atS hS hSr hc⟩)
    have HNM := Lib.hid (norm_any r _ w3 (ho3.rw' hlt) (by simp [wdsN_length]; omega))
    rw [hnum] at HNM
    have hSq := Q.out.own.isS
    clear ho3 hb3 hf3 hle e2 e3 hnum hlt hvp hZ hB3 hF3 HSBW HSUB hsum hpow hyl hd1
    go_wp2_with fail
    refine HNM.out.mono ?_
    rintro _ _ ⟨rfl, rfl⟩
    go_wp2
    go_ret
    exact ⟨_, rfl, Q.out⟩
  · have hmn2 : m = n := by omega
    have t4 : decide ((n : Int) < (m : Int)) = false := decide_eq_false (by omega)
    have t4' : decide (n < m) = false := decide_eq_false hmn
    obtain ⟨ho2, hb2, hf2⟩ := HPT.out
    rw [show os.drop n = [] from List.drop_of_length_le (by rw [HOS.out]; omega), List.append_nil] at ho2
    have hc0 : c = 0 := by
      rcases (by omega : c = 0 ∨ c = 1) with h | h
      · exact h
      · exfalso
        have h1 := HCS.out; have h2 := HGE.out; have h3 := HZ1.out
        rw [h, Nat.mul_one, List.take_of_length_le (by rw [← HM.out]; omega)] at h1
        omega
    subst hc0
    have hnum : wv (wdsN Z1 n) = wv xs - wv ys := by
      have h1 := HCS.out
      rw [Nat.mul_zero, Nat.add_zero, List.take_of_length_le (by rw [← HM.out]; omega)] at h1
      rw [wv_wdsN_lt HZ1.out]; omega
    have Q : Hid (NatR z (subS r 0 (nw (wv xs - wv ys))) (wv xs - wv ys) B w w2) := Lib.hid (by
      have h1 := ho2.takeW wdsN_lt
      rw [hnum] at h1
      exact ⟨h1, (HMK.out.below.mono HB.out).trans hb2, HMK.out.fr hS hm1p hb2.size hf2.only, fun hc => HMK.out.atS hS hSr hc⟩)
    have HNM := Lib.hid (norm_any r _ w2 (ho2.rw' wdsN_lt) (by simp [wdsN_length]; omega))
    rw [hnum] at HNM
    have hSq := Q.out.own.isS
    clear ho2 hb2 hf2 hnum HSUB HPT hmn hmn2 hc1
    go_wp2_with fail
    refine HNM.out.mono ?_
    rintro _ _ ⟨rfl, rfl⟩
    go_wp2
    go_ret
    exact ⟨_, rfl, Q.out⟩
set_option maxRecDepth 100000 in
set_option maxHeartbeats 1600000 in
theorem nsub_any (z x y : Value) (zs : List Value) (X Y B : Nat) (w : World) (hz : Own w B 116 z zs) (hx : RO w x (wds X)) (hy : RO w y (wds Y)) (ax : Al z x) (ay : Al z y) (hge : Y ≤ X) (hl : nw X ≤ 100000000) (hB : B ≤ w.heap.size) :
    Calls Tryz.prog 160 #[z, x, y] w fun e w' => ∃ r, e = .returned r ∧ NatR z r (X - Y) B w w' := by
  have hS := hz.isS
  have hSx := hx.rw.isS
  have hSy := hy.rw.isS
  have hLx : sLen x = nw X := by rw [hx.rw.len, wds_length]
  have hLy : sLen y = nw Y := by rw [hy.rw.len, wds_length]
  rcases Nat.eq_zero_or_pos (nw Y) with h0 | h0
  · have hY0 := nw_eq_zero.1 h0
    have hLy0 : sLen y = 0 := by rw [hLy, h0]
    rcases Nat.eq_zero_or_pos (nw X) with g0 | g0
    · have hX0 := nw_eq_zero.1 g0
      have hLx0 : sLen x = 0 := by rw [hLx, g0]
      have Q : Hid (NatR z (subS z 0 0) (X - Y) B w w) := Lib.hid (by
        rw [hX0, hY0]
        exact ⟨by have := hz.sub (l := 0) (n := 0) (Nat.le_refl _) (Nat.zero_le _); simpa [cellsW, wds_zero] using this, Below.refl _ _, Fr.refl _ _, fun hc => .inl ⟨by rw [subS_cap hz.isS] at hc; exact hc, subS_blk hz.isS⟩⟩)
      have hSq := Q.out.own.isS
      have hc0 : 0 ≤ sCap z := Nat.zero_le _
      clear hz hx hy ax ay hLx hLy h0 g0 hX0 hY0 hl hge
      go_enter Tryz.func160, Tryz.ntmps160
      go_wp2
      go_ret
      exact ⟨_, rfl, Q.out⟩
    · obtain ⟨m, hm⟩ : ∃ m, m = nw X := ⟨_, rfl⟩
      rw [← hm] at hLx g0
      have t2 : ((m : Int) == 0) = false := by rw [beq_eq_false_iff_ne]; omega
      have t3 : decide ((m : Int) < 0) = false := decide_eq_false (by omega)
      have HS : Hid (Calls Tryz.prog 135 #[z, x] w fun e w' => ∃ r, e = .returned r ∧ NatR z r (X - Y) B w w') := Lib.hid (by
        refine (set_at z x zs (wds X) B w hz hx.rw (by rw [wds_length]; omega) hB).mono ?_
        rintro _ w' ⟨r, rfl, h⟩
        exact ⟨r, rfl, by rw [hY0, Nat.sub_zero]; exact .ofSet h⟩)
      clear hz hx hy ax ay hLy h0 hY0 hm hl hge
      go_enter Tryz.func160, Tryz.ntmps160
      go_wp2_with fail
      refine HS.out.mono ?_
      rintro _ w1 ⟨r, rfl, h⟩
      have Q := Lib.hid h
      have hSq := h.own.isS
      clear h
      go_wp2
      go_ret
      exact ⟨_, rfl, Q.out⟩
  · have := nsub_core z x y zs (wds X) (wds Y) B w hz hx hy.rw ax ay (by rw [wds_length]; exact h0) (by rw [wds_length, wds_length]; exact nw_mono hge) (by rw [wv_wds, wv_wds]; exact hge) (by rw [wds_length]; exact hl) hB
    rw [wv_wds, wv_wds] at this
    exact this
theorem top_carry {X L t : Nat} (hX : X < 18446744073709551616 ^ (L + 1)) (_h0 : 0 < t) (ht : t < 64) : wdg X L / 2 ^ (64 - t) = X * 2 ^ t / 18446744073709551616 ^ (L + 1) := by
  have h1 : wdg X L = X / 18446744073709551616 ^ L := by
    unfold wdg
    rw [Nat.mod_eq_of_lt]
    exact Nat.div_lt_of_lt_mul (by rw [Nat.pow_succ] at hX; exact hX)
  rw [h1, Nat.div_div_eq_div_mul, Nat.pow_succ, ← word_split (s := t) (by omega), ← Nat.mul_assoc, Nat.mul_div_mul_right _ _ (Nat.two_pow_pos t)]
set_option maxRecDepth 100000 in
set_option maxHeartbeats 3200000 in
theorem lsh_nil (x : Value) (X s : Nat) (w : World) (hx : RW w x (wds X)) (h0 : 0 < X) (hl : nw X ≤ 10000000) (hs0 : 0 < s) (hs : s ≤ 1000000000) :
    Calls Tryz.prog 134 #[.slice none 0 0, x, .int .u64 s] w fun e w' => ∃ r, e = .returned r ∧ Own w' w.heap.size 116 r (cellsW (wds (X * 2 ^ s))) ∧ Below w.heap.size w w' := by
  have hS := hx.isS
  have hSn := IsS.nil
  have hL : sLen x = nw X := by rw [hx.len, wds_length]
  have hp := nw_pos h0
  obtain ⟨m, hm⟩ : ∃ m, m = nw X := ⟨_, rfl⟩
  obtain ⟨k, hk⟩ : ∃ k, k = s / 64 := ⟨_, rfl⟩
  obtain ⟨t, ht⟩ : ∃ t, t = s % 64 := ⟨_, rfl⟩
  obtain ⟨n, hn⟩ : ∃ n, n = m + k := ⟨_, rfl⟩
  obtain ⟨n1, hn1⟩ : ∃ n1, n1 = n + 1 := ⟨_, rfl⟩
  rw [← hm] at hL hl hp
  have hcx : m ≤ sCap x := by have := hS.le; omega
  have t0 : ((s : Int) == 0) = false := by rw [beq_eq_false_iff_ne]; omega
  have t1 : ((m : Int) == 0) = false := by rw [beq_eq_false_iff_ne]; omega
  have e1 : (s : Int) / 64 = (k : Int) := by omega
  have e2 : (m : Int) + (k : Int) = (n : Int) := by omega
  have e3 : (n : Int) + 1 = (n1 : Int) := by omega
  have e4 : (s : Int) % 64 = (t : Int) := by omega
  have e5 : (n : Int) - (m : Int) = (k : Int) := by omega
  have hkb : k ≤ 100000000 := by omega
  have hnb : n ≤ 200000000 := by omega
  have hkn : k ≤ n := by omega
  have hnn1 : n < n1 := by omega
  have ht64 : t < 64 := by omega
  have HS : Hid (X * 2 ^ s = 18446744073709551616 ^ k * (X * 2 ^ t)) := Lib.hid (by
    rw [w_two, Nat.mul_left_comm, ← Nat.pow_add]; congr 2; omega)
  have HX := Lib.hid hx
  have HM := Lib.hid hm
  have HN := Lib.hid hn
  have HN1 := Lib.hid hn1
  have HMW : Hid (X < 18446744073709551616 ^ m) := Lib.hid (by rw [hm]; exact lt_nw X)
  clear hx hm hk ht hn hn1
  go_enter Tryz.func134, Tryz.ntmps134
  go_wp2_with fail
  refine (make_nil n1 w (by omega)).mono ?_
  rintro _ w1 ⟨z, rfl, ho, hb, hcz⟩
  have hSz := ho.isS
  have hLz : sLen z = n1 := by rw [ho.len]; simp
  have hcz1 : n1 ≤ sCap z := by have := hSz.le; omega
  have hcz0 : 0 < sCap z := by omega
  have hzB := (ho.lt hcz0).1
  have hX1 := HX.out.below hb
  have hSk : IsS (subS z k n) := subS_isS hSz hkn (by omega)
  have hS0k : IsS (subS z 0 k) := subS_isS hSz (Nat.zero_le _) (by omega)
  have hsub := ho.sub (l := k) (n := n) hkn (by simp; omega)
  have hsl : (((List.replicate n1 (Value.int .u64 0)).take n).drop k).length = m := by simp; have := HN.out; omega
  have hxb : 0 < (wds X).length := by rw [wds_length, ← HM.out]; exact hp
  have hxlt := HX.out.ri.lt (by rw [ints_length]; exact hxb)
  have hne : sBlk x ≠ sBlk (subS z k n) := by rw [subS_blk hSz]; omega
  -- what is common to both ways: the words from k on, the carry, then the words below k
  have hfin : ∀ (w2 : World) (c : Nat), c < 18446744073709551616 → X * 2 ^ t = wv (wdsN (X * 2 ^ t) m) + 18446744073709551616 ^ m * c → VvP (subS z k n) m w.heap.size (X * 2 ^ t) w1 w2 →
      (w2.frozen? ⟨sBlk z, sOff z + n, none⟩ = false ∧ ∃ u, w2.cell? ⟨sBlk z, sOff z + n, none⟩ = some u) ∧
      ∃ os : List Value, os.length = k ∧ Own (w2.setCell ⟨sBlk z, sOff z + n, none⟩ (.int .u64 (c : Int))) w.heap.size 116 (subS z 0 k) os ∧ Below w.heap.size w (w2.setCell ⟨sBlk z, sOff z + n, none⟩ (.int .u64 (c : Int))) ∧
        ∀ w3, Own w3 w.heap.size 116 (subS z 0 k) (List.replicate os.length (.int .u64 0)) → Below w.heap.size (w2.setCell ⟨sBlk z, sOff z + n, none⟩ (.int .u64 (c : Int))) w3 → FrB (sBlk (subS z 0 k)) (sOff (subS z 0 k)) (sOff (subS z 0 k) + os.length) (w2.setCell ⟨sBlk z, sOff z + n, none⟩ (.int .u64 (c : Int))) w3 →
          Calls Tryz.prog 117 #[z] w3 fun e w' => e = .returned (subS z 0 (nw (X * 2 ^ s))) ∧ w3 = w' ∧ Own w3 w.heap.size 116 (subS z 0 (nw (X * 2 ^ s))) (cellsW (wds (X * 2 ^ s))) ∧ Below w.heap.size w w3 := fun w2 c hc hcX hvp => by
    have hmn : n - k = m := by have := HN.out; omega
    have hpt := VvP.patch (l := k) (n := n) ho hkn (by simp; omega) (by rw [hmn]; exact hvp)
    rw [hmn] at hpt
    obtain ⟨ho2, hb2, hf2⟩ := hpt
    have hd : (List.replicate n1 (Value.int .u64 0)).drop n = [.int .u64 0] := by
      rw [List.drop_replicate, show n1 - n = 1 by have := HN1.out; omega]; rfl
    rw [hd] at ho2
    have htk : ((List.replicate n1 (Value.int .u64 0)).take k).length = k := by simp; omega
    have hlen : ((List.replicate n1 (Value.int .u64 0)).take k ++ (cellsW (wdsN (X * 2 ^ t) m) ++ [Value.int .u64 0])).length = n1 := by
      rw [List.length_append, htk, List.length_append, cellsW_length, wdsN_length]; have := HN.out; have := HN1.out; simp; omega
    have hset := ho2.set (i := n) (by rw [hlen]; exact hnn1) (.int .u64 (c : Int))
    have e6 : ((List.replicate n1 (Value.int .u64 0)).take k ++ (cellsW (wdsN (X * 2 ^ t) m) ++ [Value.int .u64 0])).set n (.int .u64 (c : Int)) = (List.replicate n1 (Value.int .u64 0)).take k ++ cellsW (wdsN (X * 2 ^ t) m ++ [c]) := by
      rw [List.set_append_right _ _ (by omega), htk, hmn, List.set_append_right _ _ (by rw [cellsW_length, wdsN_length]; exact Nat.le_refl _), cellsW_length, wdsN_length, Nat.sub_self, ← cellsW_append]
      rfl
    rw [e6] at hset
    have hB3 := bset (i := sOff z + n) (u := .int .u64 (c : Int)) (hb.trans hb2) hzB
    have hs0k := hset.sub (l := 0) (n := k) (Nat.zero_le _) (by rw [List.length_append, htk]; omega)
    refine ⟨⟨ho2.frozen hcz0 _, _, ho2.cell (List.getElem?_eq_getElem (by rw [hlen]; exact hnn1))⟩, _, ?_, hs0k, hB3, fun w3 h1 h2 h3 => ?_⟩
    · rw [List.take_left' htk]; simp; omega
    · have hol : ((((List.replicate n1 (Value.int .u64 0)).take k ++ cellsW (wdsN (X * 2 ^ t) m ++ [c])).take k).drop 0).length = k := by rw [List.take_left' htk]; simp; omega
      rw [hol] at h1 h3
      rw [(sub0 hSz).1, (sub0 hSz).2] at h3
      have hp3 := hset.patch (l := 0) (n := k) (Nat.zero_le _) (by rw [List.length_append, htk]; omega) (by simp) h1 (by rw [Nat.add_zero]; exact h3)
      rw [List.take_zero, List.nil_append, List.drop_left' htk, cellsW_zeros, cellsW_append] at hp3
      have hlt : ∀ e ∈ List.replicate k 0 ++ (wdsN (X * 2 ^ t) m ++ [c]), e < 18446744073709551616 := by
        intro e he
        rcases List.mem_append.1 he with h | h
        · rw [List.eq_of_mem_replicate h]; decide
        · rcases List.mem_append.1 h with h | h
          · exact wdsN_lt e h
          · rw [List.mem_singleton] at h; omega
      have hz0 : ∀ j, wv (List.replicate j 0) = 0 := fun j => by
        induction j with
        | zero => rfl
        | succ j ih => rw [List.replicate_succ]; simp [wv, ih]
      have hnum : wv (List.replicate k 0 ++ (wdsN (X * 2 ^ t) m ++ [c])) = X * 2 ^ s := by
        rw [wv_append, hz0, List.length_replicate, wv_append, wdsN_length, show wv [c] = c by simp [wv], ← hcX, HS.out, Nat.zero_add]
      have hN := norm_any z _ w3 (hp3.rw' hlt) (by simp [wdsN_length]; omega)
      have hT := hp3.takeW hlt
      rw [hnum] at hN hT
      exact hN.mono (fun e w' h => ⟨h.1, h.2, hT, hB3.trans h2⟩)
  have HFIN := Lib.hid hfin
  have HO := Lib.hid ho
  have HB := Lib.hid hb
  have HSUB := Lib.hid hsub
  have HX1 := Lib.hid hX1
  clear hfin ho hb hsub hX1 hcz hxb hxlt
  rcases Nat.eq_zero_or_pos t with ht0 | ht0
  · have t2 : ((t : Int) == 0) = true := by rw [ht0]; rfl
    have HT0 := Lib.hid ht0
    obtain ⟨T, hT⟩ : ∃ T, T = cellsW (wds X) := ⟨_, rfl⟩
    have HT := Lib.hid hT
    have HSL := Lib.hid hsl
    clear ht0 hT hsl
    go_wp2_with (refine wpList_copy_W (o := ⟨some 48, _, _, _, _, _⟩) rfl (.tmp 46) (.tmp 47) 108 108 rfl 116 Tryz.underlying108 sizeW (subS z k n) x rfl rfl w.heap.size _ HSUB.out T ?d1 hS ?d2 ?d3 (by rw [HT.out]; exact cellsW_one _) ?_)
    case d1 => rw [HSL.out, HT.out, cellsW_length, wds_length, ← HM.out]
    case d2 => rw [HT.out, cellsW_length, wds_length, hL, ← HM.out]
    case d3 => rw [HT.out]; exact HX1.out.at
    intro w2 ho2 hb2 hf2 _
    obtain ⟨⟨fz, u, cu⟩, os, hos, ho3, hb3, hk3⟩ := HFIN.out w2 0 (by decide) (by
      rw [HT0.out, Nat.pow_zero, Nat.mul_one, wv_wdsN_lt HMW.out, Nat.mul_zero, Nat.add_zero]) ⟨by
        rw [HT0.out, Nat.pow_zero, Nat.mul_one]
        have h1 : wdsN X m = wds X := by rw [HM.out]; exact wdsN_nw X
        rw [h1, ← HT.out]; exact ho2, hb2, by rw [show min n n1 - k = m by have := HN.out; omega] at hf2; exact hf2⟩
    have HO3 := Lib.hid ho3
    have HB3 := Lib.hid hb3
    have HK3 := Lib.hid hk3
    have HOS := Lib.hid hos
    clear ho2 hb2 hf2 ho3 hb3 hk3 hos
    go_wp2_with (refine wpList_clear_O (o := ⟨none, _, _, _, _, _⟩) rfl (.tmp 68) 108 rfl elemT rfl (subS z 0 k) rfl w.heap.size os HO3.out ?_)
    intro w3 ho4 hb4 hf4
    have HQ := Lib.hid (HK3.out w3 ho4 hb4 hf4)
    clear ho4 hb4 hf4
    go_wp2_with fail
    refine HQ.out.mono ?_
    rintro _ _ ⟨rfl, rfl, h5, h6⟩
    have Q := Lib.hid (And.intro h5 h6)
    have hSq := h5.isS
    clear h5 h6
    go_wp2
    go_ret
    exact ⟨_, rfl, Q.out⟩
  · have t2 : ((t : Int) == 0) = false := by rw [beq_eq_false_iff_ne]; omega
    have HC : Hid (X * 2 ^ t = wv (wdsN (X * 2 ^ t) m) + 18446744073709551616 ^ m * (wdg X (m - 1) / 2 ^ (64 - t)) ∧ wdg X (m - 1) / 2 ^ (64 - t) < 18446744073709551616) := Lib.hid (by
      obtain ⟨L, rfl⟩ : ∃ L, m = L + 1 := ⟨m - 1, by omega⟩
      rw [Nat.add_sub_cancel]
      refine ⟨?_, Nat.lt_of_le_of_lt (Nat.div_le_self _ _) (wdg_lt _ _)⟩
      rw [top_carry HMW.out ht0 ht64, wdsN_wv]
      have := Nat.mod_add_div (X * 2 ^ t) (18446744073709551616 ^ (L + 1))
      omega)
    have HLS : Hid (∀ j, Calls Tryz.prog 173 #[subS z k n, x, .int .u64 t] (w1.drewN j) fun e w' => e = .returned (.int .u64 (wdg X (m - 1) / 2 ^ (64 - t) : Nat)) ∧ VvP (subS z k n) m w.heap.size (X * 2 ^ t) w1 w') := Lib.hid (fun j => by
      have := lshVU_gen (subS z k n) x _ (wds X) X t w.heap.size (w1.drewN j) (HSUB.out.drewN j) (HX1.out.below (undrewN' (Below.refl _ _))) (wv_wds X) (by rw [hsl, wds_length, HM.out]) (fun h => absurd h hne) (by rw [wds_length, ← HM.out]; exact hp) (by rw [wds_length, ← HM.out]; omega) ht0 ht64
      rw [wds_length, ← HM.out] at this
      refine this.mono ?_
      rintro _ w' ⟨rfl, h1, h2, h3⟩
      exact ⟨rfl, h1, undrewN h2, h3.undrewN⟩)
    obtain ⟨c, hc⟩ : ∃ c, c = wdg X (m - 1) / 2 ^ (64 - t) := ⟨_, rfl⟩
    rw [← hc] at HC HLS
    have HLS0 := Lib.hid (HLS.out 0)
    clear hsl hc ht0
    go_wp2_with fail
    refine (HLS0.out).mono ?_
    rintro _ w2 ⟨rfl, hvp⟩
    obtain ⟨⟨fz, u, cu⟩, os, hos, ho3, hb3, hk3⟩ := HFIN.out w2 c HC.out.2 HC.out.1 hvp
    have HO3 := Lib.hid ho3
    have HB3 := Lib.hid hb3
    have HK3 := Lib.hid hk3
    have HOS := Lib.hid hos
    clear hvp ho3 hb3 hk3 hos
    go_wp2_with (refine wpList_clear_O (o := ⟨none, _, _, _, _, _⟩) rfl (.tmp 68) 108 rfl elemT rfl (subS z 0 k) rfl w.heap.size os HO3.out ?_)
    intro w3 ho4 hb4 hf4
    have HQ := Lib.hid (HK3.out w3 ho4 hb4 hf4)
    clear ho4 hb4 hf4
    go_wp2_with fail
    refine HQ.out.mono ?_
    rintro _ _ ⟨rfl, rfl, h5, h6⟩
    have Q := Lib.hid (And.intro h5 h6)
    have hSq := h5.isS
    clear h5 h6
    go_wp2
    go_ret
    exact ⟨_, rfl, Q.out⟩
set_option maxRecDepth 100000 in
theorem alias_nil (x : Value) (w : World) (_hx : IsS x) :
    Calls Tryz.prog 167 #[.slice none 0 0, x] w fun e w' => e = .returned (.bool false) ∧ ∃ m, w' = w.drewN m := by
  have hS := IsS.nil
  go_enter Tryz.func167, Tryz.ntmps167
  go_wp2_with fail
  go_quiet (fail)
  go_wp2
  go_ret
  exact ⟨rfl, _, rfl⟩
theorem wpList_copy_F {P : Program} {w : World} {ops : Array Oper} {rest : List Oper} {o : Oper} {a : Act} {Q : Exit → Act → World → Prop} (hgd : o.guard = none) (d s : Operand) (dT sT : TypeId)
    (ho : o.op = .call { callee := .builtin .copy, args := #[d, s], argTypes := #[dT, sT] }) (elem : TypeId) (hu : P.underlying dT = some (.slice elem)) (hsz : (P.info? elem).map (·.size) = some 1)
    (v vx : Value) (hd : a.eval d = v) (hs : a.eval s = vx) (B : Nat) (xs : List Value) (hown : Own w B elem v xs) (cs : List Value) (h0 : 0 < cs.length) (hlen : cs.length ≤ xs.length) (hsx : IsS vx) (hlx : sLen vx = cs.length)
    (hsrc : ∀ j u, cs[j]? = some u → w.cell? ⟨sBlk vx, sOff vx + j, none⟩ = some u) (h1 : ∀ v ∈ cs, v.oneCell' = true)
    (h : ∀ w', Own w' B elem v (cs ++ xs.drop cs.length) → Below B w w' → Only (sBlk v) w w' → wpList P ops Q rest (a.put o.dst (goInt cs.length)) w') : wpList P ops Q (o :: rest) a w := by
  have hL := hown.len
  have hC := hown.isS.le
  have hCx := hsx.le
  rcases hown.row with hr | ⟨hb, cur, hg, hcs, ht⟩
  · omega
  · have hv := hown.isS.out (by omega)
    have hvx := hsx.out (by omega)
    refine wpList_copy_own hgd d s dT sT ho elem hu hsz (sBlk v) (sOff v) (sLen v) (sCap v) ⟨sBlk vx, sOff vx, none⟩ (sLen vx) (sCap vx) (hd.trans hv) (hs.trans hvx) cur elem hg cs (by rw [hlx, hL]; exact (Nat.min_eq_left hlen).symm) (fun j u hj => by rw [add_none]; exact hsrc j u hj) (by omega) h1 ?_
    refine h _ ⟨hown.isS, by simp; omega, hown.cap, .inr ⟨hb, _, setRow_heap w _ _ _ _ _ hg, ?_, ?_⟩⟩ (below_setRow (Below.refl _ _) hb _) (fun k hk hne => setRow_other w _ k _ hne)
    · simp; omega
    · have hlt : (cur.toList.take (sOff v)).length = sOff v := by simp; omega
      rw [List.toList_toArray, List.drop_left' hlt]
      have e1 : (cs ++ xs.drop cs.length).length = cs.length + (xs.length - cs.length) := by simp
      have e2 : xs.drop cs.length = (cur.toList.drop (sOff v + cs.length)).take (xs.length - cs.length) := by
        conv => lhs; rw [← ht, List.drop_take, List.drop_drop]
      rw [e1, e2, List.take_append, List.take_of_length_le (show cs.length ≤ cs.length + (xs.length - cs.length) by omega)]
      congr 2; omega
theorem cellsW_drop (ws : List Nat) (k : Nat) : (cellsW ws).drop k = cellsW (ws.drop k) := by unfold cellsW; rw [List.map_drop]
theorem Own.dropW {w : World} {B e L k : Nat} {v : Value} {ws : List Nat} (h : Own w B e v (cellsW ws)) (hL : L = ws.length) (hk : k ≤ L) : Own w B e (subS v k L) (cellsW (ws.drop k)) := by
  have := h.sub (l := k) (n := L) hk (by rw [cellsW_length]; omega)
  rw [List.take_of_length_le (by rw [cellsW_length]; omega), cellsW_drop] at this
  exact this
set_option maxRecDepth 100000 in
theorem makeAcc_any (x : Bool) (w : World) : Calls Tryz.prog 132 #[.bool x] w fun e w' => e = .returned (.int .i8 (if x then 1 else -1)) ∧ w = w' := by
  cases x <;> go_enter Tryz.func132, Tryz.ntmps132 <;> go_wp2 <;> go_ret <;> exact ⟨rfl, rfl⟩
end Go.Proofs.YtllhnjpnkmjopaaGreatDoor
