/-
Texts of this proof, joined: VvD VvE VvF VvG VvH IfK SeA SeB MuA MuC AsA AsE StD DyA LwB MoA SmA SnA DvA. No condition.
-/
import Derived.Test.YtdepidpgbgfjlaaGreatDoorK49
import Derived.Test.YtdepidpgbgfjlaaGreatDoorK53
import Derived.Test.YtdepidpgbgfjlaaGreatDoorK61
import Derived.Test.YtdepidpgbgfjlaaGreatDoorK63
import Derived.Test.YtdepidpgbgfjlaaGreatDoorK64
import Derived.Test.YtdepidpgbgfjlaaGreatDoorK65
import Derived.Test.YtdepidpgbgfjlaaGreatDoorK66
namespace Go.Proofs.YtdepidpgbgfjlaaGreatDoor
open Go.RowKit

def Fr (z : Value) (w w' : World) : Prop := ∀ k, k < w.heap.size → (0 < sCap z → k ≠ sBlk z) → w'.heap[k]? = w.heap[k]?
theorem Fr.refl (z : Value) (w : World) : Fr z w w := fun _ _ _ => rfl
theorem Fr.trans {z : Value} {w1 w2 w3 : World} (h : Fr z w1 w2) (hs : w1.heap.size ≤ w2.heap.size) (k : Fr z w2 w3) : Fr z w1 w3 := fun i hi hn => (k i (by omega) hn).trans (h i hi hn)
theorem Fr.row {z : Value} {w w' : World} (h : Fr z w w') {k : Nat} {o : Obj} (hr : w.heap[k]? = some o) (hn : 0 < sCap z → k ≠ sBlk z) : w'.heap[k]? = some o := (h k (get_lt hr) hn).trans hr
def Al (z x : Value) : Prop := 0 < sCap z → sBlk x = sBlk z → sOff x = sOff z
theorem Al.nil (x : Value) : Al (.slice none 0 0) x := fun h => absurd h (by decide)
structure MkP (z r : Value) (n B : Nat) (w w' : World) : Prop where
  own : ∃ ys : List Value, ys.length = n ∧ Own w' B 164 r ys
  how : (w' = w ∧ r = subS z 0 n ∧ n ≤ sCap z) ∨ (w.heap.size ≤ sBlk r ∧ sOff r = 0 ∧ Below w.heap.size w w')
set_option maxRecDepth 100000 in
theorem make_any (z : Value) (zs : List Value) (n B : Nat) (w : World) (hz : Own w B 164 z zs) (hn : n ≤ 1000000000) (hB : B ≤ w.heap.size) :
    Calls Tryz.prog 193 #[z, .int .i64 n] w fun e w' => ∃ r, e = .returned r ∧ MkP z r n B w w' := by
  have hS := hz.isS
  by_cases hc : n ≤ sCap z
  · have t1 : decide ((n : Int) ≤ (sCap z : Int)) = true := decide_eq_true (by omega)
    have t1' : decide (n ≤ sCap z) = true := decide_eq_true hc
    obtain ⟨ys, h1, h2⟩ := hz.grow hc
    have Q : Hid (MkP z (subS z 0 n) n B w w) := Lib.hid ⟨⟨ys, h1, h2⟩, .inl ⟨rfl, rfl, hc⟩⟩
    have hS2 := h2.isS
    clear hz h1 h2
    go_enter Tryz.func193, Tryz.ntmps193
    go_wp2
    go_ret
    exact ⟨_, rfl, Q.out⟩
  · have t1 : decide ((n : Int) ≤ (sCap z : Int)) = false := decide_eq_false (by omega)
    have t1' : decide (n ≤ sCap z) = false := decide_eq_false hc
    have hn0 : 0 < n := by omega
    have HB := Lib.hid hB
    clear hz hc hB
    by_cases h1 : n = 1
    · subst h1
      have t2 : decide ((1 : Int) ≤ (sCap z : Int)) = false := t1
      go_enter Tryz.func193, Tryz.ntmps193
      go_wp2_with (at_make; refine wpList_make_O rfl _ _ _ rfl elemT .i64 .i64 _ _ rfl rfl w.heap.size ?c1 ?c2 ?c3 ?c4 ?c5 ?_)
      case c1 => omega
      case c2 => omega
      case c3 => omega
      case c4 => omega
      case c5 => exact Nat.le_refl _
      rintro v w1 rfl ho hb hz
      have Q := Lib.hid (⟨⟨_, by simp, ho.mono HB.out⟩, .inr ⟨by simp, by simp, hb⟩⟩ : MkP z (.slice (some ⟨w.heap.size, 0, none⟩) 1 1) 1 B w w1)
      clear ho hb
      go_wp2
      go_ret
      exact ⟨_, rfl, Q.out⟩
    · have t2 : ((n : Int) == 1) = false := by rw [beq_eq_false_iff_ne]; omega
      clear h1
      go_enter Tryz.func193, Tryz.ntmps193
      go_wp2_with (at_make; refine wpList_make_O rfl _ _ _ rfl elemT .i64 .i64 _ _ rfl rfl w.heap.size ?c1 ?c2 ?c3 ?c4 ?c5 ?_)
      case c1 => omega
      case c2 => omega
      case c3 => omega
      case c4 => omega
      case c5 => exact Nat.le_refl _
      rintro v w1 rfl ho hb hz
      have Q := Lib.hid (⟨⟨_, by simp, ho.mono HB.out⟩, .inr ⟨by simp, by simp, hb⟩⟩ : MkP z (.slice (some ⟨w.heap.size, 0, none⟩) n ((n : Int) + 4).toNat) n B w w1)
      clear ho hb
      go_wp2
      go_ret
      exact ⟨.slice (some ⟨w.heap.size, 0, none⟩) n ((n : Int) + 4).toNat, rfl, Q.out⟩
theorem MkP.below {z r : Value} {n B : Nat} {w w' : World} (h : MkP z r n B w w') : Below w.heap.size w w' := by
  rcases h.how with ⟨rfl, -⟩ | ⟨-, -, hb⟩
  · exact Below.refl _ _
  · exact hb
theorem MkP.al {z r x : Value} {n B : Nat} {xs : List Nat} {w w' : World} (h : MkP z r n B w w') (hz : IsS z) (hn : 0 < n) (ha : Al z x) (hx : RW w x xs) (hl : 0 < xs.length) : sBlk x = sBlk r → sOff x = sOff r := by
  rcases h.how with ⟨-, rfl, hc⟩ | ⟨h1, h2, -⟩
  · rw [subS_blk hz, subS_off0 hz]; exact ha (by omega)
  · intro he
    have := hx.ri.lt (by rw [ints_length]; exact hl)
    omega
theorem MkP.fr {z r : Value} {n B : Nat} {w w1 w2 : World} (h : MkP z r n B w w1) (hz : IsS z) (hn : 0 < n) (_hs : w1.heap.size ≤ w2.heap.size) (ho : Only (sBlk r) w1 w2) : Fr z w w2 := by
  intro k hk hne
  rcases h.how with ⟨rfl, rfl, hc⟩ | ⟨h1, h2, hb⟩
  · exact ho k hk (by rw [subS_blk hz]; exact hne (by omega))
  · exact (ho k (Nat.lt_of_lt_of_le hk hb.size) (by omega)).trans (hb.block k hk)
theorem FrB.ro {b lo hi : Nat} {w w' : World} {v : Value} {ws : List Nat} (h : FrB b lo hi w w') (hv : RO w v ws) (hn : sBlk v = b → sOff v + ws.length ≤ lo ∨ hi ≤ sOff v) : RO w' v ws := by
  refine ⟨h.rw hv.rw hn, fun hl => ?_⟩
  obtain ⟨c, hr⟩ := hv.row hl
  by_cases hb : sBlk v = b
  · obtain ⟨c', h1, -, -⟩ := h.row c _ (0, 0) (hb ▸ hr)
    exact ⟨c', hb ▸ h1⟩
  · exact ⟨c, (h.only _ (get_lt hr) hb).trans hr⟩
theorem RO.away {w : World} {x : Value} {xs : List Nat} {b i T : Nat} {cs : Array Value} {u : Value} (h : RO w x xs) (hr : w.heap[b]? = some (.cells cs T (0, 0))) (hT : T ≠ 164) : RO (w.setCell ⟨b, i, none⟩ u) x xs := by
  have hne : 0 < xs.length → sBlk x ≠ b := fun hl he => by
    obtain ⟨c, h1⟩ := h.row hl
    rw [he, hr] at h1
    exact hT (by injection (Option.some.inj h1))
  refine ⟨⟨⟨h.rw.isS, h.rw.ri.len, fun j hj => ?_⟩, h.rw.lt⟩, fun hl => ?_⟩
  · rw [cell_other (by simpa using fun he => hne (by rw [ints_length] at hj; omega) he.symm)]
    exact h.rw.ri.cell j hj
  · obtain ⟨c, h1⟩ := h.row hl
    exact ⟨c, (heap_setCell_other _ _ _ _ (by simpa using hne hl)).trans h1⟩
theorem RO.fr {w w' : World} {z x : Value} {xs : List Nat} (h : RO w x xs) (hf : Fr z w w') (hne : 0 < sCap z → sBlk x ≠ sBlk z) : RO w' x xs := by
  refine ⟨⟨⟨h.rw.isS, h.rw.ri.len, fun j hj => ?_⟩, h.rw.lt⟩, fun hl => ?_⟩
  · have hc := h.rw.ri.cell j hj
    exact (World.cell?_of_block (hf _ (World.block_lt_of_cell? w _ hc) hne)).trans hc
  · obtain ⟨c, h1⟩ := h.row hl
    exact ⟨c, hf.row h1 hne⟩
theorem MkP.at_ {z r : Value} {n B : Nat} {w w' : World} (h : MkP z r n B w w') (hz : IsS z) (hc : 0 < sCap r) : (0 < sCap z ∧ sBlk r = sBlk z) ∨ w.heap.size ≤ sBlk r := by
  rcases h.how with ⟨-, rfl, hn⟩ | ⟨h1, -, -⟩
  · rw [subS_cap hz, Nat.sub_zero] at hc
    exact .inl ⟨hc, subS_blk hz⟩
  · exact .inr h1
theorem MkP.atS {z r : Value} {n B k : Nat} {w w' : World} (h : MkP z r n B w w') (hz : IsS z) (hr : IsS r) (hc : 0 < sCap (subS r 0 k)) : (0 < sCap z ∧ sBlk (subS r 0 k) = sBlk z) ∨ w.heap.size ≤ sBlk (subS r 0 k) := by
  rw [subS_cap hr, Nat.sub_zero] at hc
  rw [subS_blk hr]
  exact h.at_ hz hc
set_option maxRecDepth 100000 in
theorem set_at (z x : Value) (zs : List Value) (xs : List Nat) (B : Nat) (w : World) (hz : Own w B 164 z zs) (hx : RW w x xs) (hl : xs.length ≤ 1000000000) (hB : B ≤ w.heap.size) :
    Calls Tryz.prog 133 #[z, x] w fun e w' => ∃ r, e = .returned r ∧ Own w' B 164 r (cellsW xs) ∧ Below B w w' ∧ Fr z w w' ∧ (0 < sCap r → (0 < sCap z ∧ sBlk r = sBlk z) ∨ w.heap.size ≤ sBlk r) := by
  have hS := hx.isS
  have hL := hx.len
  have hSz := hz.isS
  have HX := Lib.hid hx
  have HZ := Lib.hid hz
  have HB := Lib.hid hB
  clear hx hz hB
  go_enter Tryz.func133, Tryz.ntmps133
  go_wp2_with fail
  refine (make_any z zs xs.length B w HZ.out hl HB.out).mono ?_
  rintro _ w1 ⟨r, rfl, hm⟩
  obtain ⟨ys, hy, ho⟩ := hm.own
  have hSr := ho.isS
  have hLr : sLen r = xs.length := by rw [ho.len, hy]
  have HO := Lib.hid ho
  have HM := Lib.hid hm
  have HY := Lib.hid hy
  clear ho hm hy
  go_wp2_with (refine wpList_copy_W (o := ⟨some 11, _, _, _, _, _⟩) rfl (.tmp 9) (.tmp 10) 121 121 rfl 164 Tryz.underlying121 sizeW _ _ rfl rfl B ys HO.out (cellsW xs) ?d1 hS ?d2 ?d3 (cellsW_one xs) ?_)
  case d1 => rw [cellsW_length, HY.out]
  case d2 => rw [cellsW_length]; exact hL
  case d3 => exact (HX.out.below HM.out.below).at
  intro w2 ho2 hb2 hf2 hw2
  have hfr2 : Fr z w w2 := by
    rcases Nat.eq_zero_or_pos xs.length with h0 | h0
    · intro k hk hne
      rw [hw2 (by rw [show xs = [] from List.eq_nil_of_length_eq_zero h0]; rfl)]
      exact HM.out.below.block k hk
    · exact HM.out.fr hSz h0 hb2.size hf2.only
  have Q : Hid (Own w2 B 164 r (cellsW xs) ∧ Below B w w2 ∧ Fr z w w2 ∧ (0 < sCap r → (0 < sCap z ∧ sBlk r = sBlk z) ∨ w.heap.size ≤ sBlk r)) := Lib.hid ⟨ho2, (HM.out.below.mono HB.out).trans hb2, hfr2, fun hc => HM.out.at_ hSz hc⟩
  clear ho2 hb2 hf2 hw2 hfr2
  go_wp2
  go_ret
  exact ⟨_, rfl, Q.out⟩
structure NatR (z r : Value) (N B : Nat) (w w' : World) : Prop where
  own : Own w' B 164 r (cellsW (wds N))
  below : Below B w w'
  fr : Fr z w w'
  at' : 0 < sCap r → (0 < sCap z ∧ sBlk r = sBlk z) ∨ w.heap.size ≤ sBlk r
theorem sub0 {v : Value} {n : Nat} (hS : IsS v) : sBlk (subS v 0 n) = sBlk v ∧ sOff (subS v 0 n) = sOff v := ⟨subS_blk hS, subS_off0 hS⟩
theorem wv_wdsN_lt {Z n : Nat} (h : Z < 18446744073709551616 ^ n) : wv (wdsN Z n) = Z := by rw [wdsN_wv, Nat.mod_eq_of_lt h]
theorem wds_zero : wds 0 = [] := rfl
theorem top_carry {X L t : Nat} (hX : X < 18446744073709551616 ^ (L + 1)) (_h0 : 0 < t) (ht : t < 64) : wdg X L / 2 ^ (64 - t) = X * 2 ^ t / 18446744073709551616 ^ (L + 1) := by
  have h1 : wdg X L = X / 18446744073709551616 ^ L := by
    unfold wdg
    rw [Nat.mod_eq_of_lt]
    exact Nat.div_lt_of_lt_mul (by rw [Nat.pow_succ] at hX; exact hX)
  rw [h1, Nat.div_div_eq_div_mul, Nat.pow_succ, ← word_split (s := t) (by omega), ← Nat.mul_assoc, Nat.mul_div_mul_right _ _ (Nat.two_pow_pos t)]
set_option maxRecDepth 100000 in
set_option maxHeartbeats 800000 in
theorem fnorm_val (v : Value) (M B : Nat) (w : World) (ho : Own w B 164 v (cellsW (wds M))) (h0 : 0 < M) (hl : nw M ≤ 1000000000) :
    Calls Tryz.prog 169 #[v] w fun e w' => e = .returned (.int .i64 ((64 * nw M - bl M : Nat) : Int)) ∧ Own w' B 164 v (cellsW (topN M)) ∧ Below B w w' ∧ Only (sBlk v) w w' := by
  have hS := ho.isS
  have hL : sLen v = nw M := by rw [ho.len, cellsW_length, wds_length]
  have hp := nw_pos h0
  have e := bl_words h0
  have hc := (ho.rw' (wds_all M)).cell (nw M - 1) (by rw [wds_length]; omega)
  rw [wds_getD] at hc
  have ht := wdg_lt M (nw M - 1)
  have htp : 0 < wdg M (nw M - 1) := Nat.pos_of_ne_zero (wdg_last h0)
  have HTN : Hid (topN M = wdsN (M * 2 ^ (64 * nw M - bl M)) (nw M)) := Lib.hid rfl
  obtain ⟨j, hj⟩ : ∃ j, nw M = j + 1 := ⟨nw M - 1, by omega⟩
  obtain ⟨t, htt⟩ : ∃ t, t = wdg M (nw M - 1) := ⟨_, rfl⟩
  rw [← htt] at e hc ht htp
  have hbt := bl_le64 ht
  have hbp := bl_pos htp
  have es : 64 * nw M - bl M = 64 - bl t := by rw [e]; omega
  rw [es] at HTN ⊢
  obtain ⟨s, hs⟩ : ∃ s, s = 64 - bl t := ⟨_, rfl⟩
  rw [← hs] at HTN ⊢
  have hs64 : s < 64 := by omega
  rw [hj, Nat.add_sub_cancel] at hc
  rw [hj] at hL hl
  have HO := Lib.hid ho
  have HJ := Lib.hid hj
  have HS := Lib.hid hs
  have HT := Lib.hid ht
  clear ho h0 hp e htp hbt hbp es hs hj ht htt
  rcases Nat.eq_zero_or_pos s with hs0 | hs0
  · subst hs0
    go_enter Tryz.func169, Tryz.ntmps169
    go_wp2_with fail
    refine (nlz_any t w HT.out).mono ?_
    rintro _ _ ⟨rfl, rfl⟩
    rw [← HS.out]
    go_wp2
    go_ret
    refine ⟨rfl, ?_, Below.refl _ _, Only.refl _ _⟩
    rw [HTN.out, Nat.pow_zero, Nat.mul_one, wdsN_nw]
    exact HO.out
  · have t1 : decide (0 < s) = true := decide_eq_true hs0
    go_enter Tryz.func169, Tryz.ntmps169
    go_wp2_with fail
    refine (nlz_any t w HT.out).mono ?_
    rintro _ _ ⟨rfl, rfl⟩
    rw [← HS.out]
    go_wp2_with fail
    refine (lshVU_any v (wds M) M s B w HO.out (wds_all M) (wv_wds M) (by rw [wds_length, HJ.out]; omega) (by rw [wds_length, HJ.out]; exact hl) hs0 hs64).mono ?_
    rintro _ w1 ⟨rfl, h1, h2, h3⟩
    rw [wds_length, ← HTN.out] at h1
    have H1 := Lib.hid h1
    clear h1
    go_wp2
    go_ret
    exact ⟨rfl, H1.out, h2, h3⟩
theorem bl_nw (M : Nat) : bl M ≤ 64 * nw M := by
  rcases Nat.eq_zero_or_pos M with h | h
  · rw [h, bl_zero]; omega
  · have := nw_bl h; omega
set_option maxRecDepth 100000 in
set_option maxHeartbeats 3200000 in
theorem setIntF_at (b B c o Bc p m f M : Nat) (vx : Value) (a e : Int) (neg0 sg : Bool) (w : World) (h : FltR w b p m a f neg0 (.slice none 0 0) e) (hB : B ≤ b) (d0 : w.cell? ⟨c, o, none⟩ = some (.bool sg)) (d1 : w.cell? ⟨c, o + 1, none⟩ = some vx) (hox : Own w Bc 164 vx (cellsW (wds M))) (hbc : b ≠ c) (hp : p ≤ 64000000) (hm : m ≤ 5) (hM : nw M ≤ 1000000) :
    Calls Tryz.prog 106 #[.pointer (some ⟨b, 0, none⟩), .pointer (some ⟨c, o, none⟩)] w fun e' w' => e' = .returned (.pointer (some ⟨b, 0, none⟩)) ∧
      FVal w' B b (pD p (max (bl M) 64)) m (sbA (pD p (max (bl M) 64)) m sg M) (fO M) sg (rQ (pD p (max (bl M) 64)) m sg 0 M) (0 + rk (pD p (max (bl M) 64)) M) ∧ Below B w w' := by
  have hblt := h.lt
  have hlb := bl_nw M
  have hqb : (pD p (max (bl M) 64)) ≤ 64000000 := pD_le hp (by omega)
  have hq0 : 0 < (pD p (max (bl M) 64)) := pD_pos (by omega)
  obtain ⟨c0, c1, c2, c3, c4, c5, c6⟩ := h.cells
  obtain ⟨f0, f1, f2, f3, f4, f5, f6⟩ := h.free
  have hS := hox.isS
  have hLx : sLen vx = nw M := by rw [hox.len, cellsW_length, wds_length]
  have hbc1 : ¬ b = c := hbc
  have hbc2 : ¬ c = b := fun h => hbc h.symm
  have VX := Lib.hid (hox.rw' (wds_all M))
  obtain ⟨q, hq⟩ : ∃ q, q = (pD p (max (bl M) 64)) := ⟨_, rfl⟩
  rw [← hq] at hqb hq0 ⊢
  obtain ⟨l, hl⟩ : ∃ l, l = bl M := ⟨_, rfl⟩
  rw [← hl] at hq hlb
  have Hl := Lib.hid hl
  have HBL := Lib.hid (intBitLen c o vx M w d1 VX.out (by omega))
  rw [← hl] at HBL
  by_cases hm0 : M = 0
  · by_cases hp0 : p = 0
    · have t0 : ((p : Int) == 0) = true := by rw [hp0]; rfl
      have em : max (l : Int) 64 = (q : Int) := by rw [hq]; unfold pD; rw [if_pos hp0]; omega
      have R4 := Lib.hid (((h.s0 q).s2 0).s4 sg)
      have B4 := Lib.hid (bset (i := 4) (u := .bool sg) (bset (i := 2) (u := .int .i8 0) (bset (i := 0) (u := .int .u32 (q : Int)) (Below.refl B w) hB) hB) hB)
      have V4 := Lib.hid ((((h.s0 q).s2 0).own ((h.s0 q).own (h.own hox 0 (.int .u32 (q : Int))) 2 (.int .i8 0)) 4 (.bool sg)).rw' (wds_all M))
      clear hq
      have R5 := Lib.hid (R4.out.s3 0)
      have B5 := Lib.hid (bset (i := 3) (u := .int .u8 (0 : Int)) B4.out hB)
      have HF : Hid (∀ w' v e', FltR w' b q m 0 0 sg v e' → FVal w' B b q m (sbA q m sg M) (fO M) sg (rQ q m sg 0 M) (0 + rk q M)) := Lib.hid (fun w' v e' hw => by
        unfold sbA fO; rw [if_pos hm0, if_pos hm0]; exact ⟨_, _, hw, fun hc => absurd hc (by decide)⟩)
      have hLx0 : sLen vx = 0 := by rw [hLx, hm0]; rfl
      clear h hox hLx hm0 hl
      go_enter Tryz.func106, Tryz.ntmps106
      go_wp2_with fail
      refine HBL.out.mono ?_
      rintro _ _ ⟨rfl, rfl⟩
      go_wp2
      go_ret
      exact ⟨rfl, HF.out _ _ _ R5.out, B5.out⟩
    · have t0 : ((p : Int) == 0) = false := by rw [beq_eq_false_iff_ne]; omega
      obtain rfl : q = p := by rw [hq]; unfold pD; rw [if_neg hp0]
      have R4 := Lib.hid ((h.s2 0).s4 sg)
      have B4 := Lib.hid (bset (i := 4) (u := .bool sg) (bset (i := 2) (u := .int .i8 0) (Below.refl B w) hB) hB)
      have V4 := Lib.hid (((h.s2 0).own (h.own hox 2 (.int .i8 0)) 4 (.bool sg)).rw' (wds_all M))
      clear hq
      have R5 := Lib.hid (R4.out.s3 0)
      have B5 := Lib.hid (bset (i := 3) (u := .int .u8 (0 : Int)) B4.out hB)
      have HF : Hid (∀ w' v e', FltR w' b q m 0 0 sg v e' → FVal w' B b q m (sbA q m sg M) (fO M) sg (rQ q m sg 0 M) (0 + rk q M)) := Lib.hid (fun w' v e' hw => by
        unfold sbA fO; rw [if_pos hm0, if_pos hm0]; exact ⟨_, _, hw, fun hc => absurd hc (by decide)⟩)
      have hLx0 : sLen vx = 0 := by rw [hLx, hm0]; rfl
      clear h hox hLx hm0 hl
      go_enter Tryz.func106, Tryz.ntmps106
      go_wp2_with fail
      refine HBL.out.mono ?_
      rintro _ _ ⟨rfl, rfl⟩
      go_wp2
      go_ret
      exact ⟨rfl, HF.out _ _ _ R5.out, B5.out⟩
  · by_cases hp0 : p = 0
    · have t0 : ((p : Int) == 0) = true := by rw [hp0]; rfl
      have em : max (l : Int) 64 = (q : Int) := by rw [hq]; unfold pD; rw [if_pos hp0]; omega
      have R4 := Lib.hid (((h.s0 q).s2 0).s4 sg)
      have B4 := Lib.hid (bset (i := 4) (u := .bool sg) (bset (i := 2) (u := .int .i8 0) (bset (i := 0) (u := .int .u32 (q : Int)) (Below.refl B w) hB) hB) hB)
      have V4 := Lib.hid ((((h.s0 q).s2 0).own ((h.s0 q).own (h.own hox 0 (.int .u32 (q : Int))) 2 (.int .i8 0)) 4 (.bool sg)).rw' (wds_all M))
      clear hq
      have h0 : 0 < M := by omega
      have hnp := nw_pos h0
      have tl : ((nw M : Int) == 0) = false := by rw [beq_eq_false_iff_ne]; omega
      have H0 := Lib.hid h0
      have hTW := topN_wv h0
      have HTW := Lib.hid hTW
      have HDQ : Hid (deq (M * 2 ^ (64 * nw M - bl M)) ((bl M : Int) - 64 * (nw M : Int)) M 0) := Lib.hid ⟨0, 64 * nw M - bl M, by simp, by have := bl_nw M; omega⟩
      have HTOP : Hid (2 ^ (64 * nw M - 1) ≤ M * 2 ^ (64 * nw M - bl M)) := Lib.hid (by
        have h1 := bl_ge h0
        have h2 := bl_pos h0
        have h3 := bl_nw M
        refine Nat.le_trans ?_ (Nat.mul_le_mul_right _ h1)
        rw [← Nat.pow_add]; exact Nat.pow_le_pow_right (by decide) (by omega))
      obtain ⟨L, hL⟩ : ∃ L, L = nw M := ⟨_, rfl⟩
      rw [← hL] at hLx tl hnp hlb hM HTOP HDQ
      rw [← hl] at HDQ
      have HL := Lib.hid hL
      have HF : Hid (∀ w', FVal w' B b q m (rA q m sg 0 (wv (topN M))) 1 sg (rQ q m sg 0 (wv (topN M))) ((l : Int) - 64 * (L : Int) + rk q (wv (topN M))) → FVal w' B b q m (sbA q m sg M) (fO M) sg (rQ q m sg 0 M) (0 + rk q M)) := Lib.hid (fun w' hw => by
        unfold sbA fO; rw [if_neg hm0, if_neg hm0]
        refine fval_trans hw (by rw [hTW]; exact Nat.mul_pos h0 (Nat.two_pow_pos _)) ?_
        rw [hTW, ← hL, ← hl]
        exact HDQ.out)
      clear h hox h0 hl hTW hm0 hL
      go_enter Tryz.func106, Tryz.ntmps106
      go_wp2_with fail
      refine HBL.out.mono ?_
      rintro _ _ ⟨rfl, rfl⟩
      go_wp2
      (refine wp_region_hoist 9 (by kernel_rfl) (by kernel_rfl) ⟨fun _ _ _ h => (by first | exact (hQp _ _ _ h).elim | cases h.2.1 | (obtain ⟨_, h3, _⟩ := h.2; cases h3)), fun _ _ h => (by first | exact (hQo _ _ h).elim | cases h.1 | (obtain ⟨_, h3, _⟩ := h; cases h3))⟩ ?_; simp only [List.take_succ_cons, List.take_zero, List.drop_succ_cons, List.drop_zero]; (repeat (go_big_quiet_step (fail))); refine wpQuiet_nil ?_; rintro _ ⟨nq, rfl⟩)
      go_wp2_with fail
      refine (set_nil vx (wds M) _ (V4.out.drewN _) (by rw [wds_length, ← HL.out]; omega)).mono ?_
      rintro _ w5 ⟨r, rfl, ho, hb⟩
      have hSr := ho.isS
      have hb' := undrewN hb
      have R5 := R4.out.below hb'
      have B5 := B4.out.trans (hb'.mono (by simp; omega))
      have O5 : Own w5 B 164 r (cellsW (wds M)) := ho.mono (show B ≤ _ by simp; omega)
      obtain ⟨g0, g1, g2, g3, g4, g5, g6⟩ := R5.cells
      obtain ⟨k0, k1, k2, k3, k4, k5, k6⟩ := R5.free
      have R6 := Lib.hid (R5.s5 r)
      have O6 := Lib.hid (R5.own O5 5 r)
      have B6 := Lib.hid (bset (i := 5) (u := r) B5 hB)
      clear ho hb hb' R5 B5 O5 c0 c1 c2 c3 c4 c5 c6 f0 f1 f2 f3 f4 f5 f6
      go_wp2_with fail
      refine (fnorm_val r M B _ O6.out H0.out (by rw [← HL.out]; omega)).mono ?_
      rintro _ w7 ⟨rfl, ho7, hb7, hon7⟩
      have hcap : 0 < sCap r := by
        have h1 := hSr.le
        have h2 : sLen r = nw M := by rw [O6.out.len, cellsW_length, wds_length]
        have := HL.out
        omega
      have hrb := O6.out.ne_row R6.out (by decide) hcap
      have R7 : FltR w7 b q m 0 f sg r e := (hon7 b R6.out.lt hrb.symm).trans R6.out
      have HR7 := Lib.hid R7
      have HO7 := Lib.hid ho7
      have B7 := Lib.hid (B6.out.trans hb7)
      clear R7 ho7 hb7 hon7 hrb g0 g1 g2 g3 g4 g5 g6 k0 k1 k2 k3 k4 k5 k6
      have HSE := Lib.hid (setExp_any b B q m f 0 0 e (l : Int) sg r (topN M) w7 HR7.out hB HO7.out wdsN_lt (by rw [topN_length, ← HL.out]; exact hnp) (by rw [topN_length, HTW.out, ← HL.out]; exact HTOP.out) (by rw [topN_length, ← HL.out]; exact hM) hq0 hqb hm (by decide) (.inl rfl) (by omega) (by omega))
      rw [show ((0 : Nat) : Int) = 0 from rfl] at HSE
      go_wp2_with fail
      refine HSE.out.mono ?_
      rintro _ w8 ⟨rfl, hR⟩
      have hQ : 0 < rQ q m sg 0 (wv (topN M)) := rQ_pos sg 0 hq0 (by rw [HTW.out]; exact Nat.mul_pos H0.out (Nat.two_pow_pos _))
      have F8 := hR.val hQ
      obtain ⟨_, _, _, -, -, -, -, hb8⟩ := hR
      rw [topN_length, ← HL.out] at F8
      have F9 := Lib.hid (HF.out _ F8)
      have B8 := Lib.hid (B7.out.trans hb8)
      clear F8 hb8 hQ HSE
      go_wp2
      go_ret
      exact ⟨rfl, F9.out, B8.out⟩
    · have t0 : ((p : Int) == 0) = false := by rw [beq_eq_false_iff_ne]; omega
      obtain rfl : q = p := by rw [hq]; unfold pD; rw [if_neg hp0]
      have R4 := Lib.hid ((h.s2 0).s4 sg)
      have B4 := Lib.hid (bset (i := 4) (u := .bool sg) (bset (i := 2) (u := .int .i8 0) (Below.refl B w) hB) hB)
      have V4 := Lib.hid (((h.s2 0).own (h.own hox 2 (.int .i8 0)) 4 (.bool sg)).rw' (wds_all M))
      clear hq
      have h0 : 0 < M := by omega
      have hnp := nw_pos h0
      have tl : ((nw M : Int) == 0) = false := by rw [beq_eq_false_iff_ne]; omega
      have H0 := Lib.hid h0
      have hTW := topN_wv h0
      have HTW := Lib.hid hTW
      have HDQ : Hid (deq (M * 2 ^ (64 * nw M - bl M)) ((bl M : Int) - 64 * (nw M : Int)) M 0) := Lib.hid ⟨0, 64 * nw M - bl M, by simp, by have := bl_nw M; omega⟩
      have HTOP : Hid (2 ^ (64 * nw M - 1) ≤ M * 2 ^ (64 * nw M - bl M)) := Lib.hid (by
        have h1 := bl_ge h0
        have h2 := bl_pos h0
        have h3 := bl_nw M
        refine Nat.le_trans ?_ (Nat.mul_le_mul_right _ h1)
        rw [← Nat.pow_add]; exact Nat.pow_le_pow_right (by decide) (by omega))
      obtain ⟨L, hL⟩ : ∃ L, L = nw M := ⟨_, rfl⟩
      rw [← hL] at hLx tl hnp hlb hM HTOP HDQ
      rw [← hl] at HDQ
      have HL := Lib.hid hL
      have HF : Hid (∀ w', FVal w' B b q m (rA q m sg 0 (wv (topN M))) 1 sg (rQ q m sg 0 (wv (topN M))) ((l : Int) - 64 * (L : Int) + rk q (wv (topN M))) → FVal w' B b q m (sbA q m sg M) (fO M) sg (rQ q m sg 0 M) (0 + rk q M)) := Lib.hid (fun w' hw => by
        unfold sbA fO; rw [if_neg hm0, if_neg hm0]
        refine fval_trans hw (by rw [hTW]; exact Nat.mul_pos h0 (Nat.two_pow_pos _)) ?_
        rw [hTW, ← hL, ← hl]
        exact HDQ.out)
      clear h hox h0 hl hTW hm0 hL
      go_enter Tryz.func106, Tryz.ntmps106
      go_wp2_with fail
      refine HBL.out.mono ?_
      rintro _ _ ⟨rfl, rfl⟩
      go_wp2
      (refine wp_region_hoist 9 (by kernel_rfl) (by kernel_rfl) ⟨fun _ _ _ h => (by first | exact (hQp _ _ _ h).elim | cases h.2.1 | (obtain ⟨_, h3, _⟩ := h.2; cases h3)), fun _ _ h => (by first | exact (hQo _ _ h).elim | cases h.1 | (obtain ⟨_, h3, _⟩ := h; cases h3))⟩ ?_; simp only [List.take_succ_cons, List.take_zero, List.drop_succ_cons, List.drop_zero]; (repeat (go_big_quiet_step (fail))); refine wpQuiet_nil ?_; rintro _ ⟨nq, rfl⟩)
      go_wp2_with fail
      refine (set_nil vx (wds M) _ (V4.out.drewN _) (by rw [wds_length, ← HL.out]; omega)).mono ?_
      rintro _ w5 ⟨r, rfl, ho, hb⟩
      have hSr := ho.isS
      have hb' := undrewN hb
      have R5 := R4.out.below hb'
      have B5 := B4.out.trans (hb'.mono (by simp; omega))
      have O5 : Own w5 B 164 r (cellsW (wds M)) := ho.mono (show B ≤ _ by simp; omega)
      obtain ⟨g0, g1, g2, g3, g4, g5, g6⟩ := R5.cells
      obtain ⟨k0, k1, k2, k3, k4, k5, k6⟩ := R5.free
      have R6 := Lib.hid (R5.s5 r)
      have O6 := Lib.hid (R5.own O5 5 r)
      have B6 := Lib.hid (bset (i := 5) (u := r) B5 hB)
      clear ho hb hb' R5 B5 O5 c0 c1 c2 c3 c4 c5 c6 f0 f1 f2 f3 f4 f5 f6
      go_wp2_with fail
      refine (fnorm_val r M B _ O6.out H0.out (by rw [← HL.out]; omega)).mono ?_
      rintro _ w7 ⟨rfl, ho7, hb7, hon7⟩
      have hcap : 0 < sCap r := by
        have h1 := hSr.le
        have h2 : sLen r = nw M := by rw [O6.out.len, cellsW_length, wds_length]
        have := HL.out
        omega
      have hrb := O6.out.ne_row R6.out (by decide) hcap
      have R7 : FltR w7 b q m 0 f sg r e := (hon7 b R6.out.lt hrb.symm).trans R6.out
      have HR7 := Lib.hid R7
      have HO7 := Lib.hid ho7
      have B7 := Lib.hid (B6.out.trans hb7)
      clear R7 ho7 hb7 hon7 hrb g0 g1 g2 g3 g4 g5 g6 k0 k1 k2 k3 k4 k5 k6
      have HSE := Lib.hid (setExp_any b B q m f 0 0 e (l : Int) sg r (topN M) w7 HR7.out hB HO7.out wdsN_lt (by rw [topN_length, ← HL.out]; exact hnp) (by rw [topN_length, HTW.out, ← HL.out]; exact HTOP.out) (by rw [topN_length, ← HL.out]; exact hM) hq0 hqb hm (by decide) (.inl rfl) (by omega) (by omega))
      rw [show ((0 : Nat) : Int) = 0 from rfl] at HSE
      go_wp2_with fail
      refine HSE.out.mono ?_
      rintro _ w8 ⟨rfl, hR⟩
      have hQ : 0 < rQ q m sg 0 (wv (topN M)) := rQ_pos sg 0 hq0 (by rw [HTW.out]; exact Nat.mul_pos H0.out (Nat.two_pow_pos _))
      have F8 := hR.val hQ
      obtain ⟨_, _, _, -, -, -, -, hb8⟩ := hR
      rw [topN_length, ← HL.out] at F8
      have F9 := Lib.hid (HF.out _ F8)
      have B8 := Lib.hid (B7.out.trans hb8)
      clear F8 hb8 hQ HSE
      go_wp2
      go_ret
      exact ⟨rfl, F9.out, B8.out⟩
def Frm (b : Nat) (w w' : World) : Prop := ∀ k, k < w.heap.size → k ≠ b → w'.heap[k]? = w.heap[k]?
theorem Frm.refl (b : Nat) (w : World) : Frm b w w := fun _ _ _ => rfl
theorem Frm.set {b : Nat} {w w1 : World} (h : Frm b w w1) (i : Nat) (u : Value) : Frm b w (w1.setCell ⟨b, i, none⟩ u) := fun k hk hb => (Below.heap_setCell _ _ _ _ hb).trans (h k hk hb)
theorem Frm.then {b : Nat} {w w1 w2 : World} (h : Frm b w w1) (g : ∀ k, k < w.heap.size → k ≠ b → w2.heap[k]? = w1.heap[k]?) : Frm b w w2 := fun k hk hb => (g k hk hb).trans (h k hk hb)
set_option maxRecDepth 100000 in
set_option maxHeartbeats 800000 in
theorem setExp_exactX (b B p m f : Nat) (a e x : Int) (neg : Bool) (v : Value) (ws : List Nat) (w : World) (h : FltR w b p m a f neg v e) (ho : Own w B 164 v (cellsW ws)) (hd : ∀ d ∈ ws, d < 18446744073709551616) (hf : Fits ws p) (h0 : 0 < ws.length) (hl : ws.length ≤ 1000000) (hp0 : 0 < p) (hp : p ≤ 64000000)
    (hx1 : -2147483648 ≤ x) (hx2 : x ≤ 2147483647) :
    Calls Tryz.prog 170 #[.pointer (some ⟨b, 0, none⟩), .int .i64 x, .int .u64 0] w fun e' w' => e' = .returned (.tuple #[]) ∧ FltR w' b p m 0 1 neg v x ∧ Own w' B 164 v (cellsW ws) ∧ Bel b (sBlk v) w w' := by
  obtain ⟨c0, c1, c2, c3, c4, c5, c6⟩ := h.cells
  obtain ⟨f0, f1, f2, f3, f4, f5, f6⟩ := h.free
  have hS := ho.isS
  have R2 := Lib.hid ((h.s3 1).s6 x)
  have O2 := Lib.hid ((h.s3 1).own (h.own ho 3 (.int .u8 (1 : Int))) 6 (.int .i32 x))
  have B2 := Lib.hid ((((Bel.refl b (sBlk v) w).box (i := 3) (x := .int .u8 (1 : Int))).box (i := 6) (x := .int .i32 x)))
  have HD := Lib.hid hd
  have HF := Lib.hid hf
  clear h ho hd hf
  go_enter Tryz.func170, Tryz.ntmps170
  go_wp2_with fail
  refine (round_exactX b B p m a x neg v ws _ R2.out O2.out HD.out HF.out h0 hl hp0 hp).mono ?_
  rintro _ w1 ⟨rfl, r1, r2, r3⟩
  have Q := Lib.hid (⟨r1, r2, B2.out.trans r3⟩ : FltR w1 b p m 0 1 neg v x ∧ Own w1 B 164 v (cellsW ws) ∧ Bel b (sBlk v) w w1)
  clear r1 r2 r3
  go_wp2
  go_end0
  exact ⟨rfl, Q.out⟩
set_option maxRecDepth 100000 in
set_option maxHeartbeats 3200000 in
theorem setIntF_zero (b B c o Bc p m f M : Nat) (vx : Value) (a e : Int) (neg0 sg : Bool) (w : World) (h : FltR w b p m a f neg0 (.slice none 0 0) e) (hB : B ≤ b) (d0 : w.cell? ⟨c, o, none⟩ = some (.bool sg)) (d1 : w.cell? ⟨c, o + 1, none⟩ = some vx) (hox : Own w Bc 164 vx (cellsW (wds M))) (hbc : b ≠ c) (hp0 : p = 0) (hM : nw M ≤ 1000000) :
    Calls Tryz.prog 106 #[.pointer (some ⟨b, 0, none⟩), .pointer (some ⟨c, o, none⟩)] w fun e' w' => e' = .returned (.pointer (some ⟨b, 0, none⟩)) ∧
      FloatAt w' B b (max (bl M) 64) m (fO M) sg M 0 ∧ Below B w w' ∧ Frm b w w' := by
  have hblt := h.lt
  have hlb := bl_nw M
  have hqb : (max (bl M) 64) ≤ 64000000 := (by omega)
  have hq0 : 0 < (max (bl M) 64) := (by omega)
  obtain ⟨c0, c1, c2, c3, c4, c5, c6⟩ := h.cells
  obtain ⟨f0, f1, f2, f3, f4, f5, f6⟩ := h.free
  have hS := hox.isS
  have hLx : sLen vx = nw M := by rw [hox.len, cellsW_length, wds_length]
  have hbc1 : ¬ b = c := hbc
  have hbc2 : ¬ c = b := fun h => hbc h.symm
  have VX := Lib.hid (hox.rw' (wds_all M))
  obtain ⟨q, hq⟩ : ∃ q, q = (max (bl M) 64) := ⟨_, rfl⟩
  rw [← hq] at hqb hq0 ⊢
  obtain ⟨l, hl⟩ : ∃ l, l = bl M := ⟨_, rfl⟩
  rw [← hl] at hq hlb
  have Hl := Lib.hid hl
  have HBL := Lib.hid (intBitLen c o vx M w d1 VX.out (by omega))
  rw [← hl] at HBL
  by_cases hm0 : M = 0
  · have t0 : ((p : Int) == 0) = true := by rw [hp0]; rfl
    have em : max (l : Int) 64 = (q : Int) := by omega
    have R4 := Lib.hid (((h.s0 q).s2 0).s4 sg)
    have F4 := Lib.hid ((((Frm.refl b w).set 0 (.int .u32 (q : Int))).set 2 (.int .i8 0)).set 4 (.bool sg))
    have B4 := Lib.hid (bset (i := 4) (u := .bool sg) (bset (i := 2) (u := .int .i8 0) (bset (i := 0) (u := .int .u32 (q : Int)) (Below.refl B w) hB) hB) hB)
    have V4 := Lib.hid ((((h.s0 q).s2 0).own ((h.s0 q).own (h.own hox 0 (.int .u32 (q : Int))) 2 (.int .i8 0)) 4 (.bool sg)).rw' (wds_all M))
    clear hq
    have R5 := Lib.hid (R4.out.s3 0)
    have B5 := Lib.hid (bset (i := 3) (u := .int .u8 (0 : Int)) B4.out hB)
    have hLx0 : sLen vx = 0 := by rw [hLx, hm0]; rfl
    have hfo : fO M = 0 := by unfold fO; rw [if_pos hm0]
    rw [hfo]
    clear hfo h hox hLx hm0 hl
    go_enter Tryz.func106, Tryz.ntmps106
    go_wp2_with fail
    refine HBL.out.mono ?_
    rintro _ _ ⟨rfl, rfl⟩
    go_wp2
    go_ret
    exact ⟨rfl, ⟨hB, _, _, R5.out, fun hc => absurd hc (by decide)⟩, B5.out, F4.out.set 3 _⟩
  · have t0 : ((p : Int) == 0) = true := by rw [hp0]; rfl
    have em : max (l : Int) 64 = (q : Int) := by omega
    have R4 := Lib.hid (((h.s0 q).s2 0).s4 sg)
    have F4 := Lib.hid ((((Frm.refl b w).set 0 (.int .u32 (q : Int))).set 2 (.int .i8 0)).set 4 (.bool sg))
    have B4 := Lib.hid (bset (i := 4) (u := .bool sg) (bset (i := 2) (u := .int .i8 0) (bset (i := 0) (u := .int .u32 (q : Int)) (Below.refl B w) hB) hB) hB)
    have V4 := Lib.hid ((((h.s0 q).s2 0).own ((h.s0 q).own (h.own hox 0 (.int .u32 (q : Int))) 2 (.int .i8 0)) 4 (.bool sg)).rw' (wds_all M))
    clear hq
    have h0 : 0 < M := by omega
    have hnp := nw_pos h0
    have tl : ((nw M : Int) == 0) = false := by rw [beq_eq_false_iff_ne]; omega
    have H0 := Lib.hid h0
    obtain ⟨L, hL⟩ : ∃ L, L = nw M := ⟨_, rfl⟩
    rw [← hL] at hLx tl hnp hlb hM
    have HL := Lib.hid hL
    have hfo : fO M = 1 := by unfold fO; rw [if_neg hm0]
    rw [hfo]
    have HFT := Lib.hid (topN_fits h0 (show bl M ≤ q by omega))
    clear hfo h hox h0 hl hm0 hL
    go_enter Tryz.func106, Tryz.ntmps106
    go_wp2_with fail
    refine HBL.out.mono ?_
    rintro _ _ ⟨rfl, rfl⟩
    go_wp2
    (refine wp_region_hoist 9 (by kernel_rfl) (by kernel_rfl) ⟨fun _ _ _ h => (by first | exact (hQp _ _ _ h).elim | cases h.2.1 | (obtain ⟨_, h3, _⟩ := h.2; cases h3)), fun _ _ h => (by first | exact (hQo _ _ h).elim | cases h.1 | (obtain ⟨_, h3, _⟩ := h; cases h3))⟩ ?_; simp only [List.take_succ_cons, List.take_zero, List.drop_succ_cons, List.drop_zero]; (repeat (go_big_quiet_step (fail))); refine wpQuiet_nil ?_; rintro _ ⟨nq, rfl⟩)
    go_wp2_with fail
    refine (set_nil vx (wds M) _ (V4.out.drewN _) (by rw [wds_length, ← HL.out]; omega)).mono ?_
    rintro _ w5 ⟨r, rfl, ho, hb⟩
    have hSr := ho.isS
    have hb' := undrewN hb
    have R5 := R4.out.below hb'
    have B5 := B4.out.trans (hb'.mono (by simp; omega))
    have F6 := Lib.hid ((F4.out.then fun k hk _ => hb'.block k (by simpa using hk)).set 5 r)
    have hrw := Lib.hid (fun hc : 0 < sCap r => (show w.heap.size ≤ sBlk r from by have := (ho.lt hc).1; simpa using this))
    have O5 : Own w5 B 164 r (cellsW (wds M)) := ho.mono (show B ≤ _ by simp; omega)
    obtain ⟨g0, g1, g2, g3, g4, g5, g6⟩ := R5.cells
    obtain ⟨k0, k1, k2, k3, k4, k5, k6⟩ := R5.free
    have R6 := Lib.hid (R5.s5 r)
    have O6 := Lib.hid (R5.own O5 5 r)
    have B6 := Lib.hid (bset (i := 5) (u := r) B5 hB)
    clear ho hb hb' R5 B5 O5 c0 c1 c2 c3 c4 c5 c6 f0 f1 f2 f3 f4 f5 f6
    go_wp2_with fail
    refine (fnorm_val r M B _ O6.out H0.out (by rw [← HL.out]; omega)).mono ?_
    rintro _ w7 ⟨rfl, ho7, hb7, hon7⟩
    have hcap : 0 < sCap r := by
      have h1 := hSr.le
      have h2 : sLen r = nw M := by rw [O6.out.len, cellsW_length, wds_length]
      have := HL.out
      omega
    have hrb := O6.out.ne_row R6.out (by decide) hcap
    have R7 : FltR w7 b q m 0 f sg r e := (hon7 b R6.out.lt hrb.symm).trans R6.out
    have HR7 := Lib.hid R7
    have HO7 := Lib.hid ho7
    have B7 := Lib.hid (B6.out.trans hb7)
    have hrs := Lib.hid (hrw.out hcap)
    have hz6 : w.heap.size ≤ w7.heap.size := by have := B7.out.size; exact this
    have F7 := Lib.hid (F6.out.then fun k hk _ => hon7 k (Nat.lt_of_lt_of_le hk (by have := B6.out.size; exact this)) (by have := hrs.out; omega))
    clear R7 ho7 hb7 hon7 hrb g0 g1 g2 g3 g4 g5 g6 k0 k1 k2 k3 k4 k5 k6
    have HSE := Lib.hid (setExp_exactX b B q m f 0 e (l : Int) sg r (topN M) w7 HR7.out HO7.out wdsN_lt HFT.out (by rw [topN_length, ← HL.out]; exact hnp) (by rw [topN_length, ← HL.out]; exact hM) hq0 hqb (by omega) (by omega))
    go_wp2_with fail
    refine HSE.out.mono ?_
    rintro _ w8 ⟨rfl, hR8, hO8, hb8⟩
    have R8 := Lib.hid hR8
    have O8 := Lib.hid hO8
    have B8 := Lib.hid (B7.out.trans (hb8.below hB (by have := hrs.out; omega) (by omega)))
    have F8 := Lib.hid (F7.out.then fun k hk hne => hb8.block k (Nat.lt_of_lt_of_le hk hz6) hne (by have := hrs.out; omega))
    clear hR8 hO8 hb8 HSE
    go_wp2
    go_ret
    exact ⟨rfl, ⟨hB, _, _, R8.out, fun _ => ⟨by rw [Hl.out]; omega, O8.out⟩⟩, B8.out, F8.out⟩
set_option maxRecDepth 100000 in
theorem mulWWW_any (x y c q r : Nat) (w : World) (hx : x < 18446744073709551616) (hy : y < 18446744073709551616) (hc : c < 18446744073709551616) (h : x * y + c = r + 18446744073709551616 * q) (hr : r < 18446744073709551616) (hq : q < 18446744073709551616) :
    Calls Tryz.prog 280 #[.int .u64 x, .int .u64 y, .int .u64 c] w fun e w' => e = .returned (.tuple #[.int .u64 q, .int .u64 r]) ∧ w' = w := by
  have HM := Lib.hid (Tryz.bits_Mul x y hx hy w)
  obtain ⟨P, hP⟩ : ∃ P, P = x * y := ⟨_, rfl⟩
  rw [← hP] at HM h
  obtain ⟨hi, hhi⟩ : ∃ hi, hi = P / 18446744073709551616 := ⟨_, rfl⟩
  obtain ⟨lo, hlo⟩ : ∃ lo, lo = P % 18446744073709551616 := ⟨_, rfl⟩
  rw [← hhi, ← hlo] at HM
  obtain ⟨cc, hcc⟩ : ∃ cc, cc = q - hi := ⟨_, rfl⟩
  have H1 := Lib.hid (show lo + c = r + 18446744073709551616 * cc by omega)
  have hle : hi + cc = q := by omega
  have e0 : (hi : Int) + (cc : Int) = (q : Int) := by omega
  have e1 : IntKind.u64.wrap ((hi : Int) + (cc : Int)) = (q : Int) := by rw [e0, IntKind.wrap_u64]; omega
  have hlol : lo < 18446744073709551616 := by omega
  have hhil : hi < 18446744073709551616 := by omega
  clear hP hhi hlo hcc h hle
  go_enter Tryz.func280, Tryz.ntmps280
  go_wp2_with fail
  refine HM.out.mono ?_
  rintro _ _ ⟨rfl, rfl⟩
  go_wp2_with fail
  refine (bitsAdd0 lo c r cc _ H1.out hr).mono ?_
  rintro _ _ ⟨rfl, rfl⟩
  go_wp2
  go_ret2
  exact ⟨rfl, rfl⟩
theorem mul_word_lt {a y d q s : Nat} (ha : a < 18446744073709551616) (hy : y < 18446744073709551616) (hd : d < 18446744073709551616) (h : a * y + d = s + 18446744073709551616 * q) : q < 18446744073709551616 := by
  have h1 : a * y ≤ 18446744073709551615 * 18446744073709551615 := Nat.mul_le_mul (by omega) (by omega)
  omega
def KarW (w : World) : Prop := w.cell? ⟨4, 0, none⟩ = some (.int .i64 40)
theorem KarW.below {w w' : World} (h : KarW w) (hb : Below w.heap.size w w') : KarW w' := by
  have hlt := World.block_lt_of_cell? w _ h
  unfold KarW
  rw [hb.cell (p := ⟨4, 0, none⟩) hlt]; exact h
theorem KarW.drewN {w : World} (h : KarW w) (n : Nat) : KarW (w.drewN n) := h
def lo (M : Nat) (E e : Int) : Nat := M * 2 ^ (E - e).toNat
theorem Good.wds {ws : List Nat} {p : Nat} (h : Good ws p) : ws = wds (wv ws) := by
  have h1 := h.bl
  obtain ⟨h2, -, h3, h4, -⟩ := h
  have hp : 0 < wv ws := Nat.lt_of_lt_of_le (Nat.two_pow_pos _) h4
  exact wds_of h3 (by rw [nw_bl hp, h1]; omega)
theorem nw_of_bl {n k : Nat} (h : bl n ≤ 64 * k) : nw n ≤ k := by
  rcases Nat.eq_zero_or_pos n with h0 | h0
  · rw [h0, nw_zero]; exact Nat.zero_le _
  · rw [nw_bl h0]; omega
theorem bthenX {B : Nat} {a b c : World} (h : Below B a b) (k : Below B b c) : Below B a c := h.trans k
theorem rQ_range {p m M : Nat} {neg : Bool} {e : Int} (h : bl M ≤ 1000000 ∧ -2120000000 ≤ e ∧ e ≤ 2120000000) : -2140000000 ≤ e + (rk p M : Nat) ∧ e + (rk p M : Nat) + bl (rQ p m neg 0 M) ≤ 2140000000 := by
  have h1 := rk_le p M
  have h2 := bl_rQ p m neg 0 M
  omega
def dyM (f M : Nat) : Nat := if f = 1 then M else 0
def dyE (f : Nat) (e : Int) : Int := if f = 1 then e else 0
theorem RealOk.pos {P E p m f : Nat} {ws : List Nat} {e : Int} (h : RealOk P E p m f ws e) (hf : f = 1) : 0 < wv ws := by
  subst hf
  obtain ⟨-, -, -, h | h | h⟩ := h
  · exact absurd h (by decide)
  · exact absurd h (by decide)
  · exact h.2.1
theorem rQ_zero (p m : Nat) (neg : Bool) : rk p 0 = 0 ∧ rQ p m neg 0 0 = 0 ∧ rA p m neg 0 0 = 0 := rQ_fits neg (by rw [bl_zero]; exact Nat.zero_le _)
theorem RealV.form {w : World} {z : Value} {p m f M : Nat} {neg : Bool} {X : Int} (h : RealV w z p m f neg M X) : ∃ (v : Value) (E : Int), z = .agg #[.int .u64 p, .int .i64 m, .int .i64 f, .bool neg, v, .int .i64 E] ∧ IsS v := by
  obtain ⟨v, E, zs, B, h1, h2, -⟩ := h
  exact ⟨v, E, h1, h2.isS⟩
def vN (V : Int) : Bool := decide (V < 0)
theorem natAbs_sI (n : Bool) (S : Nat) : (sI n S).natAbs = S := by cases n <;> simp [sI]
theorem vN_sI {n : Bool} {S : Nat} (h : 0 < S) : vN (sI n S) = n := by
  cases n
  · simp [sI, vN]
  · simp [sI, vN]; omega
theorem sI_ne {n : Bool} {S : Nat} (h : 0 < S) : sI n S ≠ 0 := by
  cases n
  · simp [sI]; omega
  · simp [sI]; omega
theorem sI_zero (n : Bool) : sI n 0 = 0 := by cases n <;> rfl
theorem FloatAt.open {w : World} {B g p m M : Nat} {n : Bool} {E : Int} (h : FloatAt w B g p m 1 n M E) (hM : 0 < M) (hp : bl M ≤ p) (hb : bl M ≤ 10000) :
    ∃ r x, FltR w g p m 0 1 n r x ∧ Own w B 164 r (cellsW (topN M)) ∧ Good (topN M) p ∧ (topN M).length ≤ 200 ∧ x = (bl M : Nat) + E ∧ deq (wv (topN M)) (x - 64 * ((topN M).length : Int)) M E := by
  obtain ⟨-, r, x, h1, h2⟩ := h
  obtain ⟨hx, h3⟩ := h2 rfl
  have hn := nw_bl hM
  have hl : (topN M).length = nw M := topN_length _
  refine ⟨r, x, h1, h3, topN_good hM hp (by omega), by rw [hl]; omega, hx, ?_⟩
  rw [hl, topN_wv hM, hx]
  exact ⟨0, 64 * nw M - bl M, by simp, by omega⟩
def AddR (w : World) (B b q m : Nat) (zn : Bool) (V X : Int) : Prop :=
  FVal w B b q m (rA q m (vN V) 0 V.natAbs) (fO V.natAbs) (if V = 0 then zn else vN V) (rQ q m (vN V) 0 V.natAbs) (X + rk q V.natAbs)
theorem AddR.pos {w : World} {B b q m S : Nat} {zn n : Bool} {X : Int} (h : 0 < S) (hF : FVal w B b q m (rA q m n 0 S) 1 n (rQ q m n 0 S) (X + rk q S)) : AddR w B b q m zn (sI n S) X := by
  unfold AddR
  rw [natAbs_sI, vN_sI h, fO, if_neg (Nat.ne_of_gt h), if_neg (sI_ne h)]
  exact hF
theorem AddR.zero {w : World} {B b q m : Nat} {zn : Bool} {X e : Int} {v : Value} (h : FltR w b q m 0 0 zn v e) : AddR w B b q m zn 0 X := by
  unfold AddR
  obtain ⟨h1, h2, h3⟩ := rQ_zero q m (vN 0)
  rw [Int.natAbs_zero, h3, if_pos rfl, show fO 0 = 0 from rfl]
  exact ⟨v, e, h, fun hc => by cases hc⟩
theorem AddR.cast {w : World} {B b q m : Nat} {zn : Bool} {V V' X X' : Int} (h : AddR w B b q m zn V X) (hV : V = V') (hX : X = X') : AddR w B b q m zn V' X' := by rw [← hV, ← hX]; exact h
theorem FltR.at {w : World} {b p m f : Nat} {a : Int} {neg : Bool} {v : Value} {e : Int} (h : FltR w b p m a f neg v e) (i : Nat) (u : Value) {B1 g p1 m1 f1 M : Nat} {n1 : Bool} {E : Int} (hne : b ≠ g) (hx : FloatAt w B1 g p1 m1 f1 n1 M E) : FloatAt (w.setCell ⟨b, i, none⟩ u) B1 g p1 m1 f1 n1 M E := by
  obtain ⟨h1, r, x, h2, h3⟩ := hx
  refine ⟨h1, r, x, (heap_setCell_other _ _ _ _ (by simpa using hne.symm)).trans h2, fun hf => ?_⟩
  obtain ⟨h4, h5⟩ := h3 hf
  exact ⟨h4, h.own h5 i u⟩
theorem FloatAt.row {w : World} {B g p m f M : Nat} {n : Bool} {E : Int} (h : FloatAt w B g p m f n M E) : ∃ r x, FltR w g p m 0 f n r x := by
  obtain ⟨-, r, x, h, -⟩ := h; exact ⟨r, x, h⟩
theorem FloatAt.drewN {w : World} {B g p m f M : Nat} {n : Bool} {E : Int} (h : FloatAt w B g p m f n M E) (k : Nat) : FloatAt (w.drewN k) B g p m f n M E := h.below (undrewN' (Below.refl _ _))
def AddZ (w : World) (z : Value) (A : Int) (q m : Nat) (zn : Bool) (V X : Int) : Prop :=
  A = rA q m (vN V) 0 V.natAbs ∧ RealV w z q m (fO V.natAbs) (if V = 0 then zn else vN V) (rQ q m (vN V) 0 V.natAbs) (X + rk q V.natAbs)
theorem AddZ.below {w w' : World} {z : Value} {A : Int} {q m : Nat} {zn : Bool} {V X : Int} (h : AddZ w z A q m zn V X) (hb : Below w.heap.size w w') : AddZ w' z A q m zn V X := ⟨h.1, h.2.below hb⟩
theorem AddZ.told {w : World} {z : Value} {A : Int} {q m M : Nat} {zn ng : Bool} {V X : Int} (h : AddZ w z A q m zn V X) (hV : sI ng M = V) (hq : 0 < q) : Told w z q m ng (rQ q m ng 0 M) (X + (rk q M : Nat)) ∧ A = rA q m ng 0 M := by
  obtain ⟨h1, h2⟩ := h
  subst hV
  rcases Nat.eq_zero_or_pos M with h0 | h0
  · subst h0
    obtain ⟨k1, k2, k3⟩ := rQ_zero q m ng
    rw [sI_zero] at h1 h2
    rw [k2, k3]
    refine ⟨?_, by rw [h1]; exact (rQ_zero q m _).2.2⟩
    exact h2.told0
  · rw [natAbs_sI, vN_sI h0] at h1 h2
    rw [fO, if_neg (Nat.ne_of_gt h0), if_neg (sI_ne h0)] at h2
    exact ⟨h2.told (rQ_pos ng 0 hq h0) (deq.refl _ _), h1⟩
theorem AddZ.form {w : World} {z : Value} {A : Int} {q m : Nat} {zn : Bool} {V X : Int} (h : AddZ w z A q m zn V X) : ∃ (f : Nat) (sg : Bool) (v : Value) (E : Int), z = .agg #[.int .u64 q, .int .i64 m, .int .i64 f, .bool sg, v, .int .i64 E] ∧ IsS v := by
  obtain ⟨v, E, h1, h2⟩ := h.2.form
  exact ⟨_, _, v, E, h1, h2⟩
theorem dw_est {d v u1 u0 Q : Nat} (hd : d < 18446744073709551616) (hu1 : u1 < d) (hu0 : u0 < 18446744073709551616)
    (hv1 : v * d ≤ 340282366920938463463374607431768211455) (hv2 : 340282366920938463463374607431768211456 ≤ v * d + d)
    (hQ1 : Q * 18446744073709551616 ≤ v * u1 + u0) (hQ2 : v * u1 + u0 < Q * 18446744073709551616 + 18446744073709551616) :
    Q * d ≤ u1 * 18446744073709551616 + u0 ∧ u1 * 18446744073709551616 + u0 < Q * d + 18446744073709551616 + d := by
  have a1 := Nat.mul_le_mul_right d hQ1
  have a2 := Nat.mul_le_mul_right d (Nat.succ_le_of_lt hQ2)
  have b1 := Nat.mul_le_mul_right u1 hv1
  have b2 := Nat.mul_le_mul_right u1 hv2
  have e1 : Q * 18446744073709551616 * d = Q * d * 18446744073709551616 := by rw [Nat.mul_right_comm]
  have e2 : (v * u1 + u0) * d = v * d * u1 + u0 * d := by rw [Nat.add_mul, Nat.mul_right_comm]
  have e3 : (v * u1 + u0 + 1) * d = v * d * u1 + u0 * d + d := by rw [Nat.add_mul, e2, Nat.one_mul]
  have e4 : (Q * 18446744073709551616 + 18446744073709551616) * d = Q * d * 18446744073709551616 + 18446744073709551616 * d := by rw [Nat.add_mul, e1]
  have e5 : (v * d + d) * u1 = v * d * u1 + d * u1 := Nat.add_mul _ _ _
  rw [e1, e2] at a1
  rw [Nat.succ_eq_add_one, e3, e4] at a2
  rw [e5] at b2
  have c1 : u0 * d ≤ u0 * 18446744073709551616 := Nat.mul_le_mul_left _ (Nat.le_of_lt hd)
  obtain ⟨e, he⟩ : ∃ e, e + d = 18446744073709551616 := ⟨18446744073709551616 - d, by omega⟩
  have c2 : u0 * e ≤ 18446744073709551615 * e := Nat.mul_le_mul_right _ (by omega)
  have c3 : u0 * e + u0 * d = u0 * 18446744073709551616 := by rw [← Nat.mul_add, he]
  have c4 : d * u1 + d ≤ d * d := by
    have := Nat.mul_le_mul_left d (Nat.succ_le_of_lt hu1)
    rw [Nat.mul_succ] at this; exact this
  have c5 : d * d ≤ d * 18446744073709551616 := Nat.mul_le_mul_left _ (Nat.le_of_lt hd)
  generalize v * d * u1 = A at *
  generalize Q * d = C at *
  generalize u0 * d = D at *
  generalize u0 * e = F at *
  generalize d * u1 = G at *
  generalize d * d = H at *
  constructor <;> omega
theorem dw_fix {d v u1 u0 Q : Nat} (hd0 : 9223372036854775808 ≤ d) (hd : d < 18446744073709551616) (hu1 : u1 < d) (hu0 : u0 < 18446744073709551616)
    (hv1 : v * d ≤ 340282366920938463463374607431768211455) (hv2 : 340282366920938463463374607431768211456 ≤ v * d + d)
    (hQ : Q = (v * u1 + u0) / 18446744073709551616) : ∃ R, u1 * 18446744073709551616 + u0 = Q * d + R ∧ R < 18446744073709551616 + d ∧ Q < 18446744073709551616 ∧
      (18446744073709551616 ≤ R → (R - d < d → (u1 * 18446744073709551616 + u0) / d = Q + 1 ∧ (u1 * 18446744073709551616 + u0) % d = R - d) ∧ (d ≤ R - d → (u1 * 18446744073709551616 + u0) / d = Q + 2 ∧ (u1 * 18446744073709551616 + u0) % d = R - d - d)) ∧
      (R < 18446744073709551616 → (R < d → (u1 * 18446744073709551616 + u0) / d = Q ∧ (u1 * 18446744073709551616 + u0) % d = R) ∧ (d ≤ R → (u1 * 18446744073709551616 + u0) / d = Q + 1 ∧ (u1 * 18446744073709551616 + u0) % d = R - d)) ∧
      (u1 * 18446744073709551616 + u0) / d < 18446744073709551616 := by
  obtain ⟨h1, h2⟩ := dw_est (Q := Q) hd hu1 hu0 hv1 hv2 (by omega) (by omega)
  have dm : ∀ q r, r < d → u1 * 18446744073709551616 + u0 = q * d + r → (u1 * 18446744073709551616 + u0) / d = q ∧ (u1 * 18446744073709551616 + u0) % d = r := fun q r hr h => by
    rw [h, Nat.mul_comm q, Nat.mul_add_div (by omega), Nat.mul_add_mod, Nat.div_eq_of_lt hr, Nat.mod_eq_of_lt hr]
    exact ⟨rfl, rfl⟩
  have hqb : (u1 * 18446744073709551616 + u0) / d < 18446744073709551616 := by
    refine Nat.div_lt_of_lt_mul ?_
    have := Nat.mul_le_mul_right 18446744073709551616 (Nat.succ_le_of_lt hu1)
    rw [Nat.succ_mul] at this
    omega
  have hQle : Q ≤ (u1 * 18446744073709551616 + u0) / d := (Nat.le_div_iff_mul_le (by omega)).2 h1
  refine ⟨u1 * 18446744073709551616 + u0 - Q * d, by omega, by omega, by omega, fun h => ⟨fun h' => ?_, fun h' => ?_⟩, fun h => ⟨fun h' => ?_, fun h' => ?_⟩, hqb⟩
  · exact dm _ _ h' (by rw [Nat.add_mul, Nat.one_mul]; omega)
  · exact dm _ _ (by omega) (by rw [Nat.add_mul]; omega)
  · exact dm _ _ h' (by omega)
  · exact dm _ _ (by omega) (by rw [Nat.add_mul, Nat.one_mul]; omega)
theorem kn_low {b y1 y0 q r u un : Nat} (h : q * y1 + r = u) (hc : b * r + un < q * y0) : u * b + un < q * (y1 * b + y0) := by
  have e : q * (y1 * b + y0) = q * y1 * b + q * y0 := by rw [Nat.mul_add, Nat.mul_assoc]
  have e2 : u * b = q * y1 * b + b * r := by rw [← h, Nat.add_mul, Nat.mul_comm b r]
  rw [e, e2]; omega
theorem kn_ok {b y1 y0 q r u un : Nat} (h : q * y1 + r = u) (hc : q * y0 ≤ b * r + un) : q * (y1 * b + y0) ≤ u * b + un := by
  have e : q * (y1 * b + y0) = q * y1 * b + q * y0 := by rw [Nat.mul_add, Nat.mul_assoc]
  have e2 : u * b = q * y1 * b + b * r := by rw [← h, Nat.add_mul, Nat.mul_comm b r]
  rw [e, e2]; omega
set_option maxRecDepth 100000 in
theorem kn_start {y1 y0 u : Nat} (hy1 : 2147483648 ≤ y1) (hy0 : y0 < 4294967296) (hu : u < y1 * 4294967296 + y0) : u / y1 ≤ 4294967297 := by
  have e : y1 * 4294967298 = y1 * 4294967296 + y1 * 2 := by rw [← Nat.mul_add]
  have h2 : u < y1 * 4294967298 := by
    rw [e]
    obtain ⟨z, hz⟩ : ∃ z, z = y1 * 4294967296 := ⟨_, rfl⟩
    rw [← hz] at hu ⊢
    clear hz e
    omega
  exact Nat.le_of_lt_succ (Nat.div_lt_of_lt_mul h2)
theorem rec_ok {u : Nat} (hu : 9223372036854775808 ≤ u) (hu2 : u < 18446744073709551616) :
    18446744073709551615 - u < u ∧ ∃ v, v * u ≤ 340282366920938463463374607431768211455 ∧ 340282366920938463463374607431768211456 ≤ v * u + u ∧ v = 18446744073709551616 + ((18446744073709551615 - u) * 18446744073709551616 + 18446744073709551615) / u := by
  refine ⟨by omega, _, ?_, ?_, rfl⟩
  · rw [Nat.add_mul]
    have := Nat.div_mul_le_self ((18446744073709551615 - u) * 18446744073709551616 + 18446744073709551615) u
    omega
  · rw [Nat.add_mul]
    have := Nat.lt_div_mul_add (a := (18446744073709551615 - u) * 18446744073709551616 + 18446744073709551615) (b := u) (by omega)
    omega
end Go.Proofs.YtdepidpgbgfjlaaGreatDoor
