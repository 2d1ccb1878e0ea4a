/-
Texts of this proof, joined: VvD VvE VvF VvG MuA MuC InF InG InH InJ WdG InL RcB SkB. No condition.
-/
import Derived.Test.YtoddjkpckpekcaaGreatDoorK06
import Derived.Test.YtoddjkpckpekcaaGreatDoorK07
import Derived.Test.YtoddjkpckpekcaaGreatDoorK09
import Derived.Test.YtoddjkpckpekcaaGreatDoorK11
import Derived.Test.YtoddjkpckpekcaaGreatDoorK12
namespace Go.Proofs.YtoddjkpckpekcaaGreatDoor
open Go.RowKit

def Fr (z : Value) (w w' : World) : Prop := ∀ k, k < w.heap.size → (0 < sCap z → k ≠ sBlk z) → w'.heap[k]? = w.heap[k]?
theorem Fr.refl (z : Value) (w : World) : Fr z w w := fun _ _ _ => rfl
theorem Fr.trans {z : Value} {w1 w2 w3 : World} (h : Fr z w1 w2) (hs : w1.heap.size ≤ w2.heap.size) (k : Fr z w2 w3) : Fr z w1 w3 := fun i hi hn => (k i (by omega) hn).trans (h i hi hn)
theorem Fr.row {z : Value} {w w' : World} (h : Fr z w w') {k : Nat} {o : Obj} (hr : w.heap[k]? = some o) (hn : 0 < sCap z → k ≠ sBlk z) : w'.heap[k]? = some o := (h k (get_lt hr) hn).trans hr
def Al (z x : Value) : Prop := 0 < sCap z → sBlk x = sBlk z → sOff x = sOff z
theorem Al.nil (x : Value) : Al (.slice none 0 0) x := fun h => absurd h (by decide)
structure MkP (z r : Value) (n B : Nat) (w w' : World) : Prop where
  own : ∃ ys : List Value, ys.length = n ∧ Own w' B 98 r ys
  how : (w' = w ∧ r = subS z 0 n ∧ n ≤ sCap z) ∨ (w.heap.size ≤ sBlk r ∧ sOff r = 0 ∧ Below w.heap.size w w')
set_option maxRecDepth 100000 in
theorem make_any (z : Value) (zs : List Value) (n B : Nat) (w : World) (hz : Own w B 98 z zs) (hn : n ≤ 1000000000) (hB : B ≤ w.heap.size) :
    Calls Tryz.prog 94 #[z, .int .i64 n] w fun e w' => ∃ r, e = .returned r ∧ MkP z r n B w w' := by
  have hS := hz.isS
  by_cases hc : n ≤ sCap z
  · have t1 : decide ((n : Int) ≤ (sCap z : Int)) = true := decide_eq_true (by omega)
    have t1' : decide (n ≤ sCap z) = true := decide_eq_true hc
    obtain ⟨ys, h1, h2⟩ := hz.grow hc
    have Q : Hid (MkP z (subS z 0 n) n B w w) := Lib.hid ⟨⟨ys, h1, h2⟩, .inl ⟨rfl, rfl, hc⟩⟩
    have hS2 := h2.isS
    clear hz h1 h2
    go_enter Tryz.func94, Tryz.ntmps94
    go_wp2
    go_ret
    exact ⟨_, rfl, Q.out⟩
  · have t1 : decide ((n : Int) ≤ (sCap z : Int)) = false := decide_eq_false (by omega)
    have t1' : decide (n ≤ sCap z) = false := decide_eq_false hc
    have hn0 : 0 < n := by omega
    have HB := Lib.hid hB
    clear hz hc hB
    by_cases h1 : n = 1
    · subst h1
      have t2 : decide ((1 : Int) ≤ (sCap z : Int)) = false := t1
      go_enter Tryz.func94, Tryz.ntmps94
      go_wp2_with (at_make; refine wpList_make_O rfl _ _ _ rfl elemT .i64 .i64 _ _ rfl rfl w.heap.size ?c1 ?c2 ?c3 ?c4 ?c5 ?_)
      case c1 => omega
      case c2 => omega
      case c3 => omega
      case c4 => omega
      case c5 => exact Nat.le_refl _
      rintro v w1 rfl ho hb hz
      have Q := Lib.hid (⟨⟨_, by simp, ho.mono HB.out⟩, .inr ⟨by simp, by simp, hb⟩⟩ : MkP z (.slice (some ⟨w.heap.size, 0, none⟩) 1 1) 1 B w w1)
      clear ho hb
      go_wp2
      go_ret
      exact ⟨_, rfl, Q.out⟩
    · have t2 : ((n : Int) == 1) = false := by rw [beq_eq_false_iff_ne]; omega
      clear h1
      go_enter Tryz.func94, Tryz.ntmps94
      go_wp2_with (at_make; refine wpList_make_O rfl _ _ _ rfl elemT .i64 .i64 _ _ rfl rfl w.heap.size ?c1 ?c2 ?c3 ?c4 ?c5 ?_)
      case c1 => omega
      case c2 => omega
      case c3 => omega
      case c4 => omega
      case c5 => exact Nat.le_refl _
      rintro v w1 rfl ho hb hz
      have Q := Lib.hid (⟨⟨_, by simp, ho.mono HB.out⟩, .inr ⟨by simp, by simp, hb⟩⟩ : MkP z (.slice (some ⟨w.heap.size, 0, none⟩) n ((n : Int) + 4).toNat) n B w w1)
      clear ho hb
      go_wp2
      go_ret
      exact ⟨.slice (some ⟨w.heap.size, 0, none⟩) n ((n : Int) + 4).toNat, rfl, Q.out⟩
theorem MkP.below {z r : Value} {n B : Nat} {w w' : World} (h : MkP z r n B w w') : Below w.heap.size w w' := by
  rcases h.how with ⟨rfl, -⟩ | ⟨-, -, hb⟩
  · exact Below.refl _ _
  · exact hb
theorem MkP.al {z r x : Value} {n B : Nat} {xs : List Nat} {w w' : World} (h : MkP z r n B w w') (hz : IsS z) (hn : 0 < n) (ha : Al z x) (hx : RW w x xs) (hl : 0 < xs.length) : sBlk x = sBlk r → sOff x = sOff r := by
  rcases h.how with ⟨-, rfl, hc⟩ | ⟨h1, h2, -⟩
  · rw [subS_blk hz, subS_off0 hz]; exact ha (by omega)
  · intro he
    have := hx.ri.lt (by rw [ints_length]; exact hl)
    omega
theorem MkP.fr {z r : Value} {n B : Nat} {w w1 w2 : World} (h : MkP z r n B w w1) (hz : IsS z) (hn : 0 < n) (_hs : w1.heap.size ≤ w2.heap.size) (ho : Only (sBlk r) w1 w2) : Fr z w w2 := by
  intro k hk hne
  rcases h.how with ⟨rfl, rfl, hc⟩ | ⟨h1, h2, hb⟩
  · exact ho k hk (by rw [subS_blk hz]; exact hne (by omega))
  · exact (ho k (Nat.lt_of_lt_of_le hk hb.size) (by omega)).trans (hb.block k hk)
theorem FrB.ro {b lo hi : Nat} {w w' : World} {v : Value} {ws : List Nat} (h : FrB b lo hi w w') (hv : RO w v ws) (hn : sBlk v = b → sOff v + ws.length ≤ lo ∨ hi ≤ sOff v) : RO w' v ws := by
  refine ⟨h.rw hv.rw hn, fun hl => ?_⟩
  obtain ⟨c, hr⟩ := hv.row hl
  by_cases hb : sBlk v = b
  · obtain ⟨c', h1, -, -⟩ := h.row c _ (0, 0) (hb ▸ hr)
    exact ⟨c', hb ▸ h1⟩
  · exact ⟨c, (h.only _ (get_lt hr) hb).trans hr⟩
theorem RO.away {w : World} {x : Value} {xs : List Nat} {b i T : Nat} {cs : Array Value} {u : Value} (h : RO w x xs) (hr : w.heap[b]? = some (.cells cs T (0, 0))) (hT : T ≠ 98) : RO (w.setCell ⟨b, i, none⟩ u) x xs := by
  have hne : 0 < xs.length → sBlk x ≠ b := fun hl he => by
    obtain ⟨c, h1⟩ := h.row hl
    rw [he, hr] at h1
    exact hT (by injection (Option.some.inj h1))
  refine ⟨⟨⟨h.rw.isS, h.rw.ri.len, fun j hj => ?_⟩, h.rw.lt⟩, fun hl => ?_⟩
  · rw [cell_other (by simpa using fun he => hne (by rw [ints_length] at hj; omega) he.symm)]
    exact h.rw.ri.cell j hj
  · obtain ⟨c, h1⟩ := h.row hl
    exact ⟨c, (heap_setCell_other _ _ _ _ (by simpa using hne hl)).trans h1⟩
theorem RO.fr {w w' : World} {z x : Value} {xs : List Nat} (h : RO w x xs) (hf : Fr z w w') (hne : 0 < sCap z → sBlk x ≠ sBlk z) : RO w' x xs := by
  refine ⟨⟨⟨h.rw.isS, h.rw.ri.len, fun j hj => ?_⟩, h.rw.lt⟩, fun hl => ?_⟩
  · have hc := h.rw.ri.cell j hj
    exact (World.cell?_of_block (hf _ (World.block_lt_of_cell? w _ hc) hne)).trans hc
  · obtain ⟨c, h1⟩ := h.row hl
    exact ⟨c, hf.row h1 hne⟩
theorem MkP.at_ {z r : Value} {n B : Nat} {w w' : World} (h : MkP z r n B w w') (hz : IsS z) (hc : 0 < sCap r) : (0 < sCap z ∧ sBlk r = sBlk z) ∨ w.heap.size ≤ sBlk r := by
  rcases h.how with ⟨-, rfl, hn⟩ | ⟨h1, -, -⟩
  · rw [subS_cap hz, Nat.sub_zero] at hc
    exact .inl ⟨hc, subS_blk hz⟩
  · exact .inr h1
theorem MkP.atS {z r : Value} {n B k : Nat} {w w' : World} (h : MkP z r n B w w') (hz : IsS z) (hr : IsS r) (hc : 0 < sCap (subS r 0 k)) : (0 < sCap z ∧ sBlk (subS r 0 k) = sBlk z) ∨ w.heap.size ≤ sBlk (subS r 0 k) := by
  rw [subS_cap hr, Nat.sub_zero] at hc
  rw [subS_blk hr]
  exact h.at_ hz hc
set_option maxRecDepth 100000 in
theorem set_at (z x : Value) (zs : List Value) (xs : List Nat) (B : Nat) (w : World) (hz : Own w B 98 z zs) (hx : RW w x xs) (hl : xs.length ≤ 1000000000) (hB : B ≤ w.heap.size) :
    Calls Tryz.prog 63 #[z, x] w fun e w' => ∃ r, e = .returned r ∧ Own w' B 98 r (cellsW xs) ∧ Below B w w' ∧ Fr z w w' ∧ (0 < sCap r → (0 < sCap z ∧ sBlk r = sBlk z) ∨ w.heap.size ≤ sBlk r) := by
  have hS := hx.isS
  have hL := hx.len
  have hSz := hz.isS
  have HX := Lib.hid hx
  have HZ := Lib.hid hz
  have HB := Lib.hid hB
  clear hx hz hB
  go_enter Tryz.func63, Tryz.ntmps63
  go_wp2_with fail
  refine (make_any z zs xs.length B w HZ.out hl HB.out).mono ?_
  rintro _ w1 ⟨r, rfl, hm⟩
  obtain ⟨ys, hy, ho⟩ := hm.own
  have hSr := ho.isS
  have hLr : sLen r = xs.length := by rw [ho.len, hy]
  have HO := Lib.hid ho
  have HM := Lib.hid hm
  have HY := Lib.hid hy
  clear ho hm hy
  go_wp2_with (refine wpList_copy_W (o := ⟨some 11, _, _, _, _, _⟩) rfl (.tmp 9) (.tmp 10) 85 85 rfl 98 Tryz.underlying85 sizeW _ _ rfl rfl B ys HO.out (cellsW xs) ?d1 hS ?d2 ?d3 (cellsW_one xs) ?_)
  case d1 => rw [cellsW_length, HY.out]
  case d2 => rw [cellsW_length]; exact hL
  case d3 => exact (HX.out.below HM.out.below).at
  intro w2 ho2 hb2 hf2 hw2
  have hfr2 : Fr z w w2 := by
    rcases Nat.eq_zero_or_pos xs.length with h0 | h0
    · intro k hk hne
      rw [hw2 (by rw [show xs = [] from List.eq_nil_of_length_eq_zero h0]; rfl)]
      exact HM.out.below.block k hk
    · exact HM.out.fr hSz h0 hb2.size hf2.only
  have Q : Hid (Own w2 B 98 r (cellsW xs) ∧ Below B w w2 ∧ Fr z w w2 ∧ (0 < sCap r → (0 < sCap z ∧ sBlk r = sBlk z) ∨ w.heap.size ≤ sBlk r)) := Lib.hid ⟨ho2, (HM.out.below.mono HB.out).trans hb2, hfr2, fun hc => HM.out.at_ hSz hc⟩
  clear ho2 hb2 hf2 hw2 hfr2
  go_wp2
  go_ret
  exact ⟨_, rfl, Q.out⟩
structure NatR (z r : Value) (N B : Nat) (w w' : World) : Prop where
  own : Own w' B 98 r (cellsW (wds N))
  below : Below B w w'
  fr : Fr z w w'
  at' : 0 < sCap r → (0 < sCap z ∧ sBlk r = sBlk z) ∨ w.heap.size ≤ sBlk r
theorem sub0 {v : Value} {n : Nat} (hS : IsS v) : sBlk (subS v 0 n) = sBlk v ∧ sOff (subS v 0 n) = sOff v := ⟨subS_blk hS, subS_off0 hS⟩
theorem wv_wdsN_lt {Z n : Nat} (h : Z < 18446744073709551616 ^ n) : wv (wdsN Z n) = Z := by rw [wdsN_wv, Nat.mod_eq_of_lt h]
theorem wds_zero : wds 0 = [] := rfl
theorem top_carry {X L t : Nat} (hX : X < 18446744073709551616 ^ (L + 1)) (_h0 : 0 < t) (ht : t < 64) : wdg X L / 2 ^ (64 - t) = X * 2 ^ t / 18446744073709551616 ^ (L + 1) := by
  have h1 : wdg X L = X / 18446744073709551616 ^ L := by
    unfold wdg
    rw [Nat.mod_eq_of_lt]
    exact Nat.div_lt_of_lt_mul (by rw [Nat.pow_succ] at hX; exact hX)
  rw [h1, Nat.div_div_eq_div_mul, Nat.pow_succ, ← word_split (s := t) (by omega), ← Nat.mul_assoc, Nat.mul_div_mul_right _ _ (Nat.two_pow_pos t)]
set_option maxRecDepth 100000 in
theorem alias_nil (x : Value) (w : World) (_hx : IsS x) :
    Calls Tryz.prog 93 #[.slice none 0 0, x] w fun e w' => e = .returned (.bool false) ∧ ∃ m, w' = w.drewN m := by
  have hS := IsS.nil
  go_enter Tryz.func93, Tryz.ntmps93
  go_wp2_with fail
  go_quiet (fail)
  go_wp2
  go_ret
  exact ⟨rfl, _, rfl⟩
set_option maxRecDepth 100000 in
theorem mulWWW_any (x y c q r : Nat) (w : World) (hx : x < 18446744073709551616) (hy : y < 18446744073709551616) (hc : c < 18446744073709551616) (h : x * y + c = r + 18446744073709551616 * q) (hr : r < 18446744073709551616) (hq : q < 18446744073709551616) :
    Calls Tryz.prog 188 #[.int .u64 x, .int .u64 y, .int .u64 c] w fun e w' => e = .returned (.tuple #[.int .u64 q, .int .u64 r]) ∧ w' = w := by
  have HM := Lib.hid (Tryz.bits_Mul x y hx hy w)
  obtain ⟨P, hP⟩ : ∃ P, P = x * y := ⟨_, rfl⟩
  rw [← hP] at HM h
  obtain ⟨hi, hhi⟩ : ∃ hi, hi = P / 18446744073709551616 := ⟨_, rfl⟩
  obtain ⟨lo, hlo⟩ : ∃ lo, lo = P % 18446744073709551616 := ⟨_, rfl⟩
  rw [← hhi, ← hlo] at HM
  obtain ⟨cc, hcc⟩ : ∃ cc, cc = q - hi := ⟨_, rfl⟩
  have H1 := Lib.hid (show lo + c = r + 18446744073709551616 * cc by omega)
  have hle : hi + cc = q := by omega
  have e0 : (hi : Int) + (cc : Int) = (q : Int) := by omega
  have e1 : IntKind.u64.wrap ((hi : Int) + (cc : Int)) = (q : Int) := by rw [e0, IntKind.wrap_u64]; omega
  have hlol : lo < 18446744073709551616 := by omega
  have hhil : hi < 18446744073709551616 := by omega
  clear hP hhi hlo hcc h hle
  go_enter Tryz.func188, Tryz.ntmps188
  go_wp2_with fail
  refine HM.out.mono ?_
  rintro _ _ ⟨rfl, rfl⟩
  go_wp2_with fail
  refine (bitsAdd0 lo c r cc _ H1.out hr).mono ?_
  rintro _ _ ⟨rfl, rfl⟩
  go_wp2
  go_ret2
  exact ⟨rfl, rfl⟩
theorem mul_word_lt {a y d q s : Nat} (ha : a < 18446744073709551616) (hy : y < 18446744073709551616) (hd : d < 18446744073709551616) (h : a * y + d = s + 18446744073709551616 * q) : q < 18446744073709551616 := by
  have h1 : a * y ≤ 18446744073709551615 * 18446744073709551615 := Nat.mul_le_mul (by omega) (by omega)
  omega
def KarW (w : World) : Prop := w.cell? ⟨6, 0, none⟩ = some (.int .i64 40)
theorem KarW.below {w w' : World} (h : KarW w) (hb : Below w.heap.size w w') : KarW w' := by
  have hlt := World.block_lt_of_cell? w _ h
  unfold KarW
  rw [hb.cell (p := ⟨6, 0, none⟩) hlt]; exact h
theorem KarW.drewN {w : World} (h : KarW w) (n : Nat) : KarW (w.drewN n) := h
def WoU (ws : List Nat) (B k : Nat) (w : World) (v : Value) (wr : World) : Prop := Own wr B 83 v (cellsW (ws.take k)) ∧ Below B w wr
theorem WoU.step {ws : List Nat} {B k : Nat} {w w1 : World} {v1 : Value} (hk : k < ws.length) (h : Own w1 B 83 v1 (cellsW (ws.take k) ++ [.int .u64 ((ws.getD k 0 : Nat) : Int)])) (hb : Below B w w1) : WoU ws B (k + 1) w v1 w1 := by
  refine ⟨?_, hb⟩
  rw [cellsW_snoc] at h
  rw [List.take_succ_eq_append_getElem hk]
  simpa [List.getD_eq_getElem?_getD, List.getElem?_eq_getElem hk] using h
def RatP (w : World) (B b : Nat) (neg : Bool) (n d : Nat) : Prop :=
  ∃ v1 v2, B ≤ b ∧ w.heap[b]? = some (.cells #[.bool neg, v1, .bool false, v2] 89 (0, 0)) ∧ Own w B 98 v1 (cellsW (wds n)) ∧ Own w B 98 v2 (cellsW (wds d))
theorem RatP.below {w w' : World} {B b : Nat} {neg : Bool} {n d : Nat} (h : RatP w B b neg n d) (hb : Below w.heap.size w w') : RatP w' B b neg n d := by
  obtain ⟨v1, v2, h1, h2, h3, h4⟩ := h
  exact ⟨v1, v2, h1, keep_row hb h2, h3.below hb, h4.below hb⟩
theorem RatP.drewN {w : World} {B b : Nat} {neg : Bool} {n d : Nat} (h : RatP w B b neg n d) (k : Nat) : RatP (w.drewN k) B b neg n d := by
  obtain ⟨v1, v2, h1, h2, h3, h4⟩ := h
  exact ⟨v1, v2, h1, h2, h3.drewN k, h4.drewN k⟩
theorem RatP.mono {w : World} {B B' b n d : Nat} {neg : Bool} (h : RatP w B b neg n d) (hB : B' ≤ B) : RatP w B' b neg n d := by
  obtain ⟨v1, v2, h1, h2, h3, h4⟩ := h
  exact ⟨v1, v2, Nat.le_trans hB h1, h2, h3.mono hB, h4.mono hB⟩
theorem wds_one : wds 1 = [1] := by decide
set_option maxRecDepth 100000 in
theorem ratDenom (b : Nat) (v : Value) (w : World) (hc : w.cell? ⟨b, 3, none⟩ = some v) (hS : IsS v) (hl : 0 < sLen v) :
    Calls Tryz.prog 55 #[.pointer (some ⟨b, 0, none⟩)] w fun e w' => e = .returned (.pointer (some ⟨b, 2, none⟩)) ∧ w = w' := by
  obtain ⟨l, hl'⟩ : ∃ l, sLen v = l := ⟨_, rfl⟩
  rw [hl'] at hl
  have t1 : ((l : Int) == 0) = false := by rw [beq_eq_false_iff_ne]; omega
  go_enter Tryz.func55, Tryz.ntmps55
  go_wp2
  go_ret
  exact ⟨rfl, rfl⟩
theorem IntP.lt {w : World} {B b n : Nat} {neg : Bool} (h : IntP w B b neg n) : b < w.heap.size := by
  obtain ⟨v, _, h2, _⟩ := h
  exact (heap_alloc_lt (o := .cells #[] 0) h2).2
set_option maxRecDepth 100000 in
set_option maxHeartbeats 800000 in
theorem ratSetInt (b c B : Nat) (neg : Bool) (n : Nat) (w : World) (hz : w.heap[b]? = some (.cells #[.bool false, .slice none 0 0, .bool false, .slice none 0 0] 89 (0, 0)))
    (hx : IntP w B c neg n) (hbc : b ≠ c) (hn : nw n ≤ 100000000) (hB : B ≤ b) :
    Calls Tryz.prog 53 #[.pointer (some ⟨b, 0, none⟩), .pointer (some ⟨c, 0, none⟩)] w fun e w' => e = .returned (.pointer (some ⟨b, 0, none⟩)) ∧ RatP w' B b neg n 1 ∧ Below B w w' := by
  obtain ⟨v, hc1, hrc, hov⟩ := hx
  have HZ := Lib.hid hz
  have HC := Lib.hid hrc
  have HV := Lib.hid (hov.rw' (wds_all n))
  have hbs : b < w.heap.size := (heap_alloc_lt (o := .cells #[] 0) hz).2
  clear hz hrc hov
  go_enter Tryz.func53, Tryz.ntmps53
  go_wp2_with fail
  refine (intSet b 0 c 0 (.bool false) v neg _ _ _ _ (wds n) w hbc HZ.out HC.out rfl rfl rfl rfl HV.out (by rw [wds_length]; omega)).mono ?_
  rintro _ w2 ⟨rfl, r, w1, hw2, ho1, hb1⟩
  have q1 := rowset (i := 0 + 1) r (keep_row hb1 HZ.out)
  have q2 := rowset (i := 0) (.bool neg) q1
  have o1 := ((ho1.away (keep_row hb1 HZ.out) (by decide) (0 + 1) r).away q1 (by decide) 0 (.bool neg)).mono (show B ≤ w.heap.size by omega)
  have bb := bset (i := 0) (u := .bool neg) (bset (i := 0 + 1) (u := r) (hb1.mono (show B ≤ w.heap.size by omega)) hB) hB
  rw [← hw2] at q2 o1 bb
  have Q2 := Lib.hid q2
  have O1 := Lib.hid o1
  have BB := Lib.hid bb
  have k3 := (row_at (i := 3) q2 rfl).1
  have hbs2 : b < w2.heap.size := (heap_alloc_lt (o := .cells #[] 0) q2).2
  clear hw2 q1 q2 o1 bb ho1 hb1
  go_wp2_with fail
  refine (setWord_nil 1 _ (by decide) (by decide)).mono ?_
  rintro _ w3 ⟨r2, rfl, ho3, hb3⟩
  have hS3 := ho3.isS
  have ho3' := ho3.mono (show B ≤ w2.heap.size by omega)
  have hb3' := hb3
  have q3 := keep_row hb3' Q2.out
  have m3 := row_at (i := 3) q3 rfl
  obtain ⟨m30, m31⟩ := m3
  have q4 := rowset (i := 3) r2 q3
  have o4 := (O1.out.below hb3').away q3 (by decide) 3 r2
  have o5 := ho3'.away q3 (by decide) 3 r2
  have bb4 := bset (i := 3) (u := r2) (BB.out.trans (hb3'.mono (show B ≤ w2.heap.size by omega))) hB
  have Q4 := Lib.hid q4
  have O4 := Lib.hid o4
  have O5 := Lib.hid o5
  have B4 := Lib.hid bb4
  clear hb3 hb3' ho3 ho3' q3 q4 o4 o5 bb4 k3
  go_wp2
  go_ret
  exact ⟨rfl, ⟨r, r2, hB, Q4.out, O4.out, by rw [wds_one]; exact O5.out⟩, B4.out⟩
theorem RW.belowB {w w' : World} {v : Value} {ds : List Nat} {B : Nat} (h : RW w v ds) (hb : Below B w w') (hlt : 0 < ds.length → sBlk v < B) : RW w' v ds := ⟨h.ri.belowB hb (by rw [ints_length]; exact hlt), h.lt⟩
set_option maxRecDepth 100000 in
set_option maxHeartbeats 800000 in
theorem rat_any (b : Bool) (v1 v2 : Value) (ns ds : List Nat) (w : World) (h1 : RW w v1 ns) (h2 : RW w v2 ds) (hl1 : ns.length ≤ 100000) (hl2 : ds.length ≤ 100000) :
    Calls Tryz.prog 29 #[.agg #[.bool b, v1, v2]] w fun e w' => ∃ g, e = .returned (.pointer (some ⟨g, 0, none⟩)) ∧ RatP w' w.heap.size g (b && decide (0 < wv ns)) (wv ns) (wv ds) ∧ Below w.heap.size w w' := by
  have hS1 := h1.isS
  have hS2 := h2.isS
  have hL2 := h2.len
  obtain ⟨la, hla⟩ : ∃ la, la = ds.length := ⟨_, rfl⟩
  rw [← hla] at hL2 hl2
  have Hla := Lib.hid hla
  have H1 := Lib.hid h1
  have H2 := Lib.hid h2
  clear h1 h2 hla
  have hab := (Below.refl w.heap.size w).alloc (Nat.le_refl _) (.cells #[.bool b, v1, v2] 26)
  obtain ⟨W, hW⟩ : ∃ W, W = w.alloc (.cells #[.bool b, v1, v2] 26) := ⟨_, rfl⟩
  have hrow : W.heap[w.heap.size]? = some (.cells #[.bool b, v1, v2] 26 (0, 0)) := by rw [hW]; exact box_row (Below.refl _ _)
  rw [← hW] at hab
  have hWs : w.heap.size ≤ W.heap.size := hab.size
  have hx : W.cell? ⟨w.heap.size, 0, none⟩ = some (.bool b) := (row_at (i := 0) hrow rfl).1
  have hy : W.cell? ⟨w.heap.size, 1, none⟩ = some v1 := (row_at (i := 1) hrow rfl).1
  have hWlt : w.heap.size < W.heap.size := (heap_alloc_lt (o := .cells #[] 0) hrow).2
  have ha1 := (Below.refl W.heap.size W).alloc (Nat.le_refl _) (.cells #[.bool false, .slice none 0 0, .bool false, .slice none 0 0] 89)
  have hrow1 := box_row (Below.refl _ (W.alloc (.cells #[.bool false, .slice none 0 0, .bool false, .slice none 0 0] 89)))
  have HR := Lib.hid hrow
  have R1 := Lib.hid (H1.out.below hab)
  have R2 := Lib.hid (H2.out.below hab)
  clear hrow
  go_enter Tryz.func29, Tryz.ntmps29
  go_upto_region 1 with fail
  rw [← hW]
  clear hW
  have HR1 := Lib.hid hrow1
  clear hrow1
  go_wp2_with fail
  refine (of_any b v1 ns _ (R1.out.below ha1) (by omega)).mono ?_
  rintro _ w1 ⟨c, rfl, hI, hb1⟩
  have hIW := hI.mono (show W.heap.size ≤ (W.alloc (.cells #[.bool false, .slice none 0 0, .bool false, .slice none 0 0] 89)).heap.size from ha1.size)
  have hr1 := keep_row hb1 HR1.out
  have hcb : W.heap.size ≠ c := by
    obtain ⟨_, hc, _, _⟩ := hI
    have : W.heap.size < (W.alloc (.cells #[.bool false, .slice none 0 0, .bool false, .slice none 0 0] 89)).heap.size := by simp
    omega
  have hnn : nw (wv ns) ≤ 100000000 := Nat.le_trans (nw_le (wv_lt R1.out.lt)) (by omega)
  have HI := Lib.hid hIW
  have HB1 := Lib.hid (bthen ha1 hb1)
  have Hr1 := Lib.hid hr1
  clear hI hIW hb1 hr1
  go_wp2_with fail
  refine (ratSetInt W.heap.size c W.heap.size _ _ w1 Hr1.out HI.out hcb hnn (Nat.le_refl _)).mono ?_
  rintro _ w2 ⟨rfl, hR2, hb2⟩
  have HR2 := Lib.hid hR2
  have HB2 := Lib.hid (HB1.out.trans hb2)
  clear hR2 hb2
  have hy2 : w2.cell? ⟨w.heap.size, 2, none⟩ = some v2 := (row_at (i := 2) (keep_row HB2.out HR.out) rfl).1
  go_wp2
  have hR2d := Lib.hid (R2.out.belowB HB2.out (fun h => by have := R2.out.ri.lt (by rw [ints_length]; exact h); omega))
  go_loopw [4, 15] (fun v i wr => ∃ k : Nat, k ≤ la ∧ i = .int .i64 k ∧ OfW ds w2.heap.size k w2 v wr) (fun _ i _ => la - (intOf i).toNat)
  case atStart => exact ⟨0, Nat.zero_le _, rfl, Own.nil _ _ _, Below.refl _ _⟩
  case round =>
    obtain ⟨i, hi, rfl, hO, hbl⟩ := hrel
    have hbz := hbl.size
    have hSo : IsS u4 := hO.isS
    have HO := Lib.hid hO
    clear hO hy2 hx hy
    by_cases hia : i < la
    · have ca := (hR2d.out.below hbl).cell i (by rw [← Hla.out]; exact hia)
      obtain ⟨d, hd⟩ : ∃ d, d = ds.getD i 0 := ⟨_, rfl⟩
      rw [← hd] at ca
      have Hd := Lib.hid hd
      clear hd
      have hlk : (cellsW (ds.take i)).length = i := by rw [cellsW_length]; have := Hla.out; simp; omega
      have Hlk := Lib.hid hlk
      clear hlk
      go_wp2_with (at_builtin; refine wpList_append_O rfl _ _ _ _ rfl elemW w2.heap.size _ _ rfl (HO.out.alloc _) _ rfl 1 [.int .u64 (d : Int)] (srcOne Tryz.underlying84 wr _ _) ?c3 ?c4 ?c5 ?_)
      case c3 => rw [Hlk.out]; unfold maxLen; omega
      case c4 => rw [Hlk.out]; omega
      case c5 => simp; omega
      rintro v1 w1 ho1 hb1 - - -
      have hs := OfW.step (by rw [← Hla.out]; exact hia) (by rw [← Hd.out]; exact ho1) ((hbl.alloc hbz _).trans hb1)
      have Hs := Lib.hid hs
      clear hs ho1
      go_wp2
      go_roundw
      case rel => exact ⟨i + 1, by omega, by go_num, Hs.out⟩
      case measure => simp [intOf]; omega
    · have hil : i = la := by omega
      subst hil
      have hfull : ds.take i = ds := List.take_of_length_le (by rw [Hla.out]; exact Nat.le_refl _)
      have ho := HO.out
      rw [hfull] at ho
      have Ho := Lib.hid ho
      have Hrw := Lib.hid (ho.rw' R2.out.lt)
      obtain ⟨a1, a2, hA, hrow, hoA, hoB⟩ := HR2.out.below hbl
      have hSa := hoB.isS
      have hLa : 0 < sLen a2 := by rw [hoB.len, cellsW_length, wds_one]; decide
      have k3 := row_at (i := 3) hrow rfl
      have k2 := row_at (i := 2) hrow rfl
      have HRow := Lib.hid hrow
      have HA := Lib.hid hoA
      clear hfull ho hrow hoA hoB
      go_wp2_with fail
      refine (ratDenom W.heap.size a2 wr k3.1 hSa hLa).mono ?_
      rintro _ _ ⟨rfl, rfl⟩
      go_wp2_with fail
      refine (intSetBits W.heap.size 2 (.bool false) a2 u4 ds wr k2 k3 Hrw.out (by rw [← Hla.out]; omega)).mono ?_
      rintro _ w3 ⟨rfl, hw3⟩
      have q1 := rowset (i := 2 + 1) (subS u4 0 (nw (wv ds))) HRow.out
      have q2 := rowset (i := 2) (.bool false) q1
      have hgs : W.heap.size ≤ w2.heap.size := HB2.out.size
      have o1 := (HA.out.away HRow.out (by decide) (2 + 1) (subS u4 0 (nw (wv ds)))).away q1 (by decide) 2 (.bool false)
      have o2 := (((Ho.out.takeW R2.out.lt).away HRow.out (by decide) (2 + 1) (subS u4 0 (nw (wv ds)))).away q1 (by decide) 2 (.bool false)).mono hgs
      have bb := bset (i := 2) (u := .bool false) (bset (i := 2 + 1) (u := subS u4 0 (nw (wv ds))) (HB2.out.trans (hbl.mono hgs)) (Nat.le_refl _)) (Nat.le_refl _)
      have bW := hab.trans (bb.mono hWs)
      have fin : RatP w3 w.heap.size W.heap.size (b && decide (0 < wv ns)) (wv ns) (wv ds) := by
        rw [hw3]
        exact ⟨a1, _, hWs, q2, o1.mono hWs, o2.mono hWs⟩
      rw [← hw3] at bW
      have F := Lib.hid fin
      have BW := Lib.hid bW
      clear hw3 q1 q2 o1 o2 bb fin bW k2 k3
      go_wp2
      go_ret
      exact ⟨W.heap.size, rfl, F.out, BW.out⟩
theorem wdiv_step (n i : Nat) : n / 18446744073709551616 ^ i = 18446744073709551616 * (n / 18446744073709551616 ^ (i + 1)) + wdg n i := by
  unfold wdg
  rw [Nat.pow_succ, ← Nat.div_div_eq_div_mul]
  omega
theorem lt_of_nw {x y : Nat} (h : nw x < nw y) : x < y := by
  refine Nat.lt_of_not_le fun hc => ?_
  have := nw_mono hc
  omega
theorem lt_of_wdg {x y i : Nat} (he : x / 18446744073709551616 ^ (i + 1) = y / 18446744073709551616 ^ (i + 1)) (h : wdg x i < wdg y i) : x < y := by
  have h1 := wdiv_step x i
  have h2 := wdiv_step y i
  refine Nat.lt_of_not_le fun hc => ?_
  have := Nat.div_le_div_right (c := 18446744073709551616 ^ i) hc
  omega
set_option maxRecDepth 100000 in
set_option maxHeartbeats 800000 in
theorem cmp_any (a b : Value) (x y : Nat) (w : World) (ha : RW w a (wds x)) (hb : RW w b (wds y)) (hx : nw x ≤ 1000000000) (hy : nw y ≤ 1000000000) :
    Calls Tryz.prog 65 #[a, b] w fun e w' => e = .returned (.int .i64 (cmpN x y)) ∧ ∃ n, w' = w.drewN n := by
  have hSa := ha.isS
  have hSb := hb.isS
  have hLa := ha.len
  have hLb := hb.len
  rw [wds_length] at hLa hLb
  obtain ⟨la, hla⟩ : ∃ la, la = nw x := ⟨_, rfl⟩
  obtain ⟨lb, hlb⟩ : ∃ lb, lb = nw y := ⟨_, rfl⟩
  rw [← hla] at hLa hx
  rw [← hlb] at hLb hy
  have Hla := Lib.hid hla
  have Hlb := Lib.hid hlb
  have Ha := Lib.hid ha
  have Hb := Lib.hid hb
  clear hla hlb ha hb
  by_cases h1 : la < lb
  · have t1 : decide (la < lb) = true := by rw [decide_eq_true_iff]; exact h1
    have t2 : ((la : Int) == lb) = false := by rw [beq_eq_false_iff_ne]; omega
    go_enter Tryz.func65, Tryz.ntmps65
    go_wp2
    go_ret
    exact ⟨ret_int (cmpN_lt (lt_of_nw (by rw [← Hla.out, ← Hlb.out]; exact h1))).symm, 0, rfl⟩
  · have t1 : decide (la < lb) = false := by rw [decide_eq_false_iff_not]; exact h1
    by_cases h2 : lb < la
    · have t2 : decide (lb < la) = true := by rw [decide_eq_true_iff]; exact h2
      have t3 : ((la : Int) == lb) = false := by rw [beq_eq_false_iff_ne]; omega
      go_enter Tryz.func65, Tryz.ntmps65
      go_wp2
      go_ret
      exact ⟨ret_int (cmpN_gt (lt_of_nw (by rw [← Hla.out, ← Hlb.out]; exact h2))).symm, 0, rfl⟩
    · have t2 : decide (lb < la) = false := by rw [decide_eq_false_iff_not]; exact h2
      obtain rfl : la = lb := by omega
      clear h1 h2 t1 t2
      by_cases h0 : la = 0
      · have hxy : x = y := by
          have e1 := nw_eq_zero.1 (Hla.out.symm.trans h0)
          have e2 := nw_eq_zero.1 (Hlb.out.symm.trans h0)
          rw [e1, e2]
        have HXY := Lib.hid hxy
        subst h0
        clear hxy
        go_enter Tryz.func65, Tryz.ntmps65
        go_wp2
        go_ret
        exact ⟨ret_int (by rw [HXY.out, cmpN_eq]), 0, rfl⟩
      · have t0 : ((la : Int) == 0) = false := by rw [beq_eq_false_iff_ne]; omega
        have hpos : 1 ≤ la := by omega
        have H0 := Lib.hid h0
        clear h0
        go_enter Tryz.func65, Tryz.ntmps65
        go_wp2
        go_loopw [7] (fun i wr => ∃ k : Nat, k + 1 ≤ la ∧ i = .int .i64 (k : Int) ∧ x / 18446744073709551616 ^ (k + 1) = y / 18446744073709551616 ^ (k + 1) ∧ ∃ n, wr = w.drewN n) (fun i _ => (intOf i).toNat)
        case atStart =>
          refine ⟨la - 1, by omega, by go_num, ?_, 0, rfl⟩
          have e1 := lt_nw x
          have e2 := lt_nw y
          rw [← Hla.out] at e1
          rw [← Hlb.out] at e2
          rw [show la - 1 + 1 = la by omega, Nat.div_eq_of_lt e1, Nat.div_eq_of_lt e2]
        case round =>
          obtain ⟨k, hk, rfl, hv, nn, rfl⟩ := hrel
          have Hv := Lib.hid hv
          clear hv
          have ca := Ha.out.cell k (by rw [wds_length, ← Hla.out]; omega)
          have cb := Hb.out.cell k (by rw [wds_length, ← Hlb.out]; omega)
          rw [wds_getD] at ca cb
          obtain ⟨p, hp⟩ : ∃ p, p = wdg x k := ⟨_, rfl⟩
          obtain ⟨q, hq⟩ : ∃ q, q = wdg y k := ⟨_, rfl⟩
          rw [← hp] at ca
          rw [← hq] at cb
          have Hp := Lib.hid hp
          have Hq := Lib.hid hq
          clear hp hq
          have hkn : k < la := by omega
          by_cases h3 : p < q
          · have t3 : decide (p < q) = true := by rw [decide_eq_true_iff]; exact h3
            have t4 : ((p : Int) == q) = false := by rw [beq_eq_false_iff_ne]; omega
            have hk0 : decide (0 < k) = true ∨ decide (0 < k) = false := by cases decide (0 < k) <;> simp
            rcases hk0 with hk0 | hk0
            all_goals
              go_wp2
              go_quiet (fail)
              go_wp2
              go_quiet (fail)
              go_wp2
              go_ret
              exact ⟨ret_int (cmpN_lt (lt_of_wdg Hv.out (by rw [← Hp.out, ← Hq.out]; exact h3))).symm, by simp only [World.drewN_drewN]; exact ⟨_, rfl⟩⟩
          · have t3 : decide (p < q) = false := by rw [decide_eq_false_iff_not]; exact h3
            by_cases h4 : q < p
            · have t4 : ((p : Int) == q) = false := by rw [beq_eq_false_iff_ne]; omega
              have t5 : decide (q < p) = true := by rw [decide_eq_true_iff]; exact h4
              have hk0 : decide (0 < k) = true ∨ decide (0 < k) = false := by cases decide (0 < k) <;> simp
              rcases hk0 with hk0 | hk0
              all_goals
                go_wp2
                go_quiet (fail)
                go_wp2
                go_quiet (fail)
                go_wp2
                go_quiet (fail)
                go_wp2
                go_ret
                exact ⟨ret_int (cmpN_gt (lt_of_wdg Hv.out.symm (by rw [← Hp.out, ← Hq.out]; exact h4))).symm, by simp only [World.drewN_drewN]; exact ⟨_, rfl⟩⟩
            · have t4 : ((p : Int) == q) = true := by rw [beq_iff_eq]; omega
              have t5 : decide (q < p) = false := by rw [decide_eq_false_iff_not]; exact h4
              have hpq : p = q := by omega
              have e1 := wdiv_step x k
              have e2 := wdiv_step y k
              rw [← Hp.out] at e1
              rw [← Hq.out] at e2
              have e3 : x / 18446744073709551616 ^ k = y / 18446744073709551616 ^ k := by rw [e1, e2, Hv.out, hpq]
              have E3 := Lib.hid e3
              have HPQ := Lib.hid hpq
              clear e1 e2 e3 hpq h3 h4
              by_cases hk0 : 0 < k
              · have t6 : decide (0 < k) = true := decide_eq_true hk0
                go_wp2
                go_quiet (fail)
                go_wp2
                refine ⟨⟨k - 1, by omega, by go_num, ?_, by first | exact ⟨_, rfl⟩ | (simp only [World.drewN_drewN]; exact ⟨_, rfl⟩)⟩, by simp [intOf]; omega⟩
                rw [show k - 1 + 1 = k by omega]; exact E3.out
              · have t6 : decide (0 < k) = false := decide_eq_false hk0
                obtain rfl : k = 0 := by omega
                rw [Nat.add_zero] at ca cb
                go_wp2
                go_quiet (fail)
                go_wp2
                go_quiet (fail)
                go_wp2
                go_quiet (fail)
                go_wp2
                go_ret
                refine ⟨ret_int ?_, by simp only [World.drewN_drewN]; exact ⟨_, rfl⟩⟩
                have := E3.out
                rw [Nat.pow_zero, Nat.div_one, Nat.div_one] at this
                rw [this, cmpN_eq]
def FrPost (n : Nat) (b : Bool) (ns ds : List Nat) (w : World) (v : Value) (w' : World) : Prop :=
  ∃ bb a1 a2 ok, v = .tuple #[.agg #[.bool bb, a1, a2], .bool ok] ∧ IsS a1 ∧ IsS a2 ∧ Below w.heap.size w w' ∧
    (ok = true → bb = b ∧ ns.length ≤ n ∧ ds.length ≤ n ∧ 0 < wv ds ∧ isFrac b ns ds b (wv ns) (wv ds) = true ∧ Nat.gcd (wv ns) (wv ds) = 1 ∧ NatV w' a1 (wv ns) ∧ NatV w' a2 (wv ds))
set_option maxRecDepth 100000 in
set_option maxHeartbeats 800000 in
theorem fraction_any (b : Bool) (v1 v2 : Value) (n : Nat) (ns ds : List Nat) (w : World) (h1 : RW w v1 ns) (h2 : RW w v2 ds) (hn : n ≤ 100000) :
    Calls Tryz.prog 9 #[.agg #[.bool b, v1, v2], .int .i64 n] w fun e w' => ∃ v, e = .returned v ∧ FrPost n b ns ds w v w' := by
  have hS1 := h1.isS
  have hS2 := h2.isS
  have H1 := Lib.hid h1
  have H2 := Lib.hid h2
  clear h1 h2
  have hab := ((Below.refl w.heap.size w).alloc (Nat.le_refl _) (.cells #[.bool b, v1, v2] 26))
  have hac := hab.alloc hab.size (.cells #[.bool false, .slice none 0 0, .slice none 0 0] 31)
  obtain ⟨W, hW⟩ : ∃ W, W = (w.alloc (.cells #[.bool b, v1, v2] 26)).alloc (.cells #[.bool false, .slice none 0 0, .slice none 0 0] 31) := ⟨_, rfl⟩
  rw [← hW] at hac
  have c0 : W.cell? ⟨w.heap.size, 0, none⟩ = some (.bool b) := by
    rw [hW]; exact box_cell (w := w) (cs := #[.bool b, v1, v2]) ((Below.refl _ _).alloc (Nat.le_refl _) _) rfl
  have c1 : W.cell? ⟨w.heap.size, 1, none⟩ = some v1 := by
    rw [hW]; exact box_cell (w := w) (cs := #[.bool b, v1, v2]) ((Below.refl _ _).alloc (Nat.le_refl _) _) rfl
  have c2 : W.cell? ⟨w.heap.size, 2, none⟩ = some v2 := by
    rw [hW]; exact box_cell (w := w) (cs := #[.bool b, v1, v2]) ((Below.refl _ _).alloc (Nat.le_refl _) _) rfl
  have HWs := Lib.hid (show W.heap.size = w.heap.size + 2 by rw [hW]; simp)
  have hrw : W.heap[w.heap.size + 1]? = some (.cells #[.bool false, .slice none 0 0, .slice none 0 0] 31 (0, 0)) := by
    rw [hW]
    have := box_row (Below.refl _ ((w.alloc (.cells #[.bool b, v1, v2] 26)).alloc (.cells #[.bool false, .slice none 0 0, .slice none 0 0] 31)))
    simpa using this
  have HR := Lib.hid hrw
  have R1 := Lib.hid (H1.out.below hac)
  have R2 := Lib.hid (H2.out.below hac)
  have r3 := row3 hrw
  obtain ⟨x0, x1, x2, y0, y1, y2⟩ := r3
  have HW := Lib.hid hW
  clear hrw
  go_enter Tryz.func9, Tryz.ntmps9
  go_upto_region 1 with fail
  rw [← hW]
  clear hW
  by_cases hl1 : n < ns.length
  · have t1 : decide (n < ns.length) = true := decide_eq_true hl1
    go_wp2_with fail
    refine (long_any v1 ns n W R1.out).mono ?_
    rintro _ _ ⟨rfl, rfl⟩
    rw [t1]
    go_wp2
    obtain ⟨hx0, hx1, hx2, -, -, -⟩ := row3 (row3_set (x := .bool false) (y := .slice none 0 0) (z := .slice none 0 0) (HR.out))
    have hbY := bset (i := 2) (u := .slice none 0 0) (bset (i := 1) (u := .slice none 0 0) (bset (i := 0) (u := .bool false) (hac) (Nat.le_succ _)) (Nat.le_succ _)) (Nat.le_succ _)
    refine bodyPost_ret (v := .tuple #[.agg #[.bool false, .slice none 0 0, .slice none 0 0], .bool false]) ?_ rfl ⟨_, rfl, false, .slice none 0 0, .slice none 0 0, false, rfl, IsS.nil, IsS.nil, hbY, by simp⟩
    simp [results, Tryz.results9, go_sem, hx0, hx1, hx2]
  · have t1 : decide (n < ns.length) = false := decide_eq_false hl1
    go_wp2_with fail
    refine (long_any v1 ns n W R1.out).mono ?_
    rintro _ _ ⟨rfl, rfl⟩
    rw [t1]
    by_cases hl2 : n < ds.length
    · have t2 : decide (n < ds.length) = true := decide_eq_true hl2
      go_wp2_with fail
      refine (long_any v2 ds n W R2.out).mono ?_
      rintro _ _ ⟨rfl, rfl⟩
      rw [t2]
      go_wp2
      obtain ⟨hx0, hx1, hx2, -, -, -⟩ := row3 (row3_set (x := .bool false) (y := .slice none 0 0) (z := .slice none 0 0) (HR.out))
      have hbY := bset (i := 2) (u := .slice none 0 0) (bset (i := 1) (u := .slice none 0 0) (bset (i := 0) (u := .bool false) (hac) (Nat.le_succ _)) (Nat.le_succ _)) (Nat.le_succ _)
      refine bodyPost_ret (v := .tuple #[.agg #[.bool false, .slice none 0 0, .slice none 0 0], .bool false]) ?_ rfl ⟨_, rfl, false, .slice none 0 0, .slice none 0 0, false, rfl, IsS.nil, IsS.nil, hbY, by simp⟩
      simp [results, Tryz.results9, go_sem, hx0, hx1, hx2]
    · have t2 : decide (n < ds.length) = false := decide_eq_false hl2
      go_wp2_with fail
      refine (long_any v2 ds n W R2.out).mono ?_
      rintro _ _ ⟨rfl, rfl⟩
      rw [t2]
      go_wp2_with fail
      refine (spOf v2 ds W R2.out (by omega)).mono ?_
      rintro _ w1 ⟨dv, rfl, hdv, hb1⟩
      have hSd := hdv.isS
      have hLd := hdv.len
      have HR1 := Lib.hid (keep_row hb1 HR.out)
      obtain ⟨z0, z1, z2, q0, q1, q2⟩ := row3 HR1.out
      obtain ⟨-, e0, e1, e2⟩ := ks3 c0 c1 c2 hb1
      have hbX : Below w.heap.size w w1 := hac.trans (hb1.mono hac.size)
      by_cases hd0 : wv ds = 0
      · have t3 : sLen dv = 0 := by rw [hLd, hd0]; rfl
        clear hLd
        go_wp2
        obtain ⟨hx0, hx1, hx2, -, -, -⟩ := row3 (row3_set (x := .bool false) (y := .slice none 0 0) (z := .slice none 0 0) (HR1.out))
        have hbY := bset (i := 2) (u := .slice none 0 0) (bset (i := 1) (u := .slice none 0 0) (bset (i := 0) (u := .bool false) (hbX) (Nat.le_succ _)) (Nat.le_succ _)) (Nat.le_succ _)
        refine bodyPost_ret (v := .tuple #[.agg #[.bool false, .slice none 0 0, .slice none 0 0], .bool false]) ?_ rfl ⟨_, rfl, false, .slice none 0 0, .slice none 0 0, false, rfl, IsS.nil, IsS.nil, hbY, by simp⟩
        simp [results, Tryz.results9, go_sem, hx0, hx1, hx2]
      · have hp := nl_pos (show 0 < wv ds by omega)
        have t3 : ((nl (wv ds) : Int) == 0) = false := by rw [beq_eq_false_iff_ne]; omega
        go_wp2_with fail
        refine (ofFraction_any b v1 v2 ns ds w1 (H1.out.below hbX) (H2.out.below hbX) (by omega) (by omega)).mono ?_
        rintro _ w2 ⟨_, rfl, a1, a2, rfl, hn1, hn2, hb2⟩
        have hSa1 := hn1.isS
        have hSa2 := hn2.isS
        have HR2 := Lib.hid (keep_row hb2 HR1.out)
        obtain ⟨m0, m1, m2, p0, p1, p2⟩ := row3 HR2.out
        obtain ⟨ok, hok⟩ : ∃ ok, ok = (isFrac b ns ds b (wv ns) (wv ds) && decide (Nat.gcd (wv ns) (wv ds) = 1)) := ⟨_, rfl⟩
        rw [← hok]
        have Hok := Lib.hid hok
        clear hok
        go_wp2
        have hbX2 := bthen hbX hb2
        obtain ⟨hx0, hx1, hx2, -, -, -⟩ := row3 (row3_set (x := .bool b) (y := a1) (z := a2) HR2.out)
        have hn1' := natv_row3 (x := .bool b) (y := a1) (z := a2) IsS.nil IsS.nil hn1 HR2.out
        have hn2' := natv_row3 (x := .bool b) (y := a1) (z := a2) IsS.nil IsS.nil hn2 HR2.out
        have hbY := bset (i := 2) (u := a2) (bset (i := 1) (u := a1) (bset (i := 0) (u := .bool b) hbX2 (Nat.le_succ _)) (Nat.le_succ _)) (Nat.le_succ _)
        refine bodyPost_ret (v := .tuple #[.agg #[.bool b, a1, a2], .bool ok]) ?_ rfl ⟨_, rfl, b, a1, a2, ok, rfl, hSa1, hSa2, hbY, fun h => ?_⟩
        · simp [results, Tryz.results9, go_sem, hx0, hx1, hx2]
        · rw [Hok.out, Bool.and_eq_true, decide_eq_true_iff] at h
          exact ⟨rfl, by omega, by omega, by omega, h.1, h.2, hn1', hn2'⟩
def sg (neg : Bool) (n : Nat) : Int := if n = 0 then 0 else if neg then -1 else 1
theorem nl_eq_zero {n : Nat} : nl n = 0 ↔ n = 0 := ⟨fun h => by rcases Nat.eq_zero_or_pos n with h' | h'; exact h'; have := nl_pos h'; omega, fun h => by rw [h]; rfl⟩
theorem sg_nl (neg : Bool) (n : Nat) : sgnI neg (nl n) = sg neg n := by
  unfold sgnI sg
  by_cases h : n = 0
  · rw [if_pos h, if_pos (nl_eq_zero.2 h)]
  · rw [if_neg h, if_neg (fun e => h (nl_eq_zero.1 e))]
set_option maxRecDepth 100000 in
theorem signOf_any (neg : Bool) (a1 a2 : Value) (n : Nat) (w : World) (hS1 : IsS a1) (_hS2 : IsS a2) (hL : sLen a1 = nl n) :
    Calls Tryz.prog 16 #[.agg #[.bool neg, a1, a2]] w fun e w' => e = .returned (.int .i64 (sg neg n)) ∧ Below w.heap.size w w' := by
  obtain ⟨l, hl⟩ : ∃ l, l = nl n := ⟨_, rfl⟩
  rw [← sg_nl, ← hl]
  rw [← hl] at hL
  clear hl
  have hab := (Below.refl w.heap.size w).alloc (Nat.le_refl _) (.cells #[.bool neg, a1, a2] 31)
  by_cases h0 : l = 0
  · subst h0
    go_enter Tryz.func16, Tryz.ntmps16
    go_wp2
    go_ret
    exact ⟨rfl, hab⟩
  · have t1 : ((l : Int) == 0) = false := by rw [beq_eq_false_iff_ne]; omega
    have H0 := Lib.hid h0
    clear h0
    cases neg
    · have E : Hid (sgnI false l = 1) := Lib.hid (by unfold sgnI; rw [if_neg H0.out]; rfl)
      go_enter Tryz.func16, Tryz.ntmps16
      go_wp2
      go_ret
      exact ⟨congrArg (fun z => Ending.returned (.int .i64 z)) E.out.symm, hab⟩
    · have E : Hid (sgnI true l = -1) := Lib.hid (by unfold sgnI; rw [if_neg H0.out]; rfl)
      go_enter Tryz.func16, Tryz.ntmps16
      go_wp2
      go_ret
      exact ⟨congrArg (fun z => Ending.returned (.int .i64 z)) E.out.symm, hab⟩
theorem run_eql_ptr_other {P : Program} (w : World) {tp te : TypeId} {j : TypeInfo} {a b : Addr} {ca cb : Array Value} {ta tb : TypeId} (hp : P.underlying tp = some (.pointer te)) (hte : P.info? te = some j) (hsz : j.size ≠ 0)
    (hne : a ≠ b) (ha : w.heap[a.block]? = some (.cells ca ta (0, 0))) (hb : w.heap[b.block]? = some (.cells cb tb (0, 0))) :
    (binOp .eql tp (.pointer (some a)) (.pointer (some b))).run P w = .ok (.bool false) w := by
  have h : ∀ d : Nat, (Op.equalIn (d + 1) tp (.pointer (some a)) (.pointer (some b))).run P w = .ok false w := fun d => by
    simp [Op.equalIn, run_underlying hp, sizeOf, typeInfo, hte, hsz, run_sameAddr_other w hne ha hb]
  simp only [binOp]
  simp [Op.equal, Op.maxDepth, h 9999]
set_option maxRecDepth 100000 in
theorem getStack_any (w : World) :
    Calls Tryz.prog 57 #[] w fun e w' => e = .returned (.pointer (some ⟨w.heap.size, 0, none⟩)) ∧ w' = w.alloc (.cells #[.pointer none] 132) := by
  go_enter Tryz.func57, Tryz.ntmps57
  go_wp2
  go_ret
  exact ⟨rfl, rfl⟩
set_option maxRecDepth 100000 in
theorem free_d (b : Nat) (u : FrameMode) (w : World) (hb : w.cell? ⟨b, 0, none⟩ = some (.pointer none)) :
    CallsD Tryz.prog 58 #[.pointer (some ⟨b, 0, none⟩)] u w fun e u' w' => u' = u ∧ (e = .returned (.tuple #[]) ∧ w' = w) := by
  go_enter_d Tryz.func58, Tryz.ntmps58
  go_wp2
  go_end0
  exact ⟨rfl, rfl⟩
theorem i64_up4 {a : Nat} (ha : a < 4611686018427387904) : bits .andNot .i64 (a : Int) 3 = ((a / 4 * 4 : Nat) : Int) := by
  have h := andNot_clear (d := a) (t := 2) (by decide) (by omega)
  have h' : IntKind.u64.wrap (((BitVec.ofInt 64 (a : Int) &&& ~~~BitVec.ofInt 64 3).toNat : Nat) : Int) = ((a / 4 * 4 : Nat) : Int) := h
  have hlt := (BitVec.ofInt 64 (a : Int) &&& ~~~BitVec.ofInt 64 3).isLt
  show IntKind.i64.wrap (((BitVec.ofInt 64 (a : Int) &&& ~~~BitVec.ofInt 64 3).toNat : Nat) : Int) = _
  generalize (BitVec.ofInt 64 (a : Int) &&& ~~~BitVec.ofInt 64 3).toNat = N at *
  rw [IntKind.wrap_u64] at h'
  rw [IntKind.wrap_i64]
  omega
theorem Own.beside {w : World} {B : Nat} {e : TypeId} {y : Value} {ys : List Value} (h : Own w B e y ys) {i : Nat} (u : Value) (hi : sOff y + ys.length ≤ i) : Own (w.setCell ⟨sBlk y, i, none⟩ u) B e y ys := by
  refine ⟨h.isS, h.len, h.cap, ?_⟩
  rcases h.row with h0 | ⟨hb, cur, hg, hsz, ht⟩
  · exact .inl h0
  · refine .inr ⟨hb, _, heap_setCell_same w _ _ _ _ _ hg, by simpa using hsz, ?_⟩
    conv => rhs; rw [← ht]
    apply List.ext_getElem?
    intro k
    rw [Array.toList_setIfInBounds, List.getElem?_take, List.getElem?_take]
    split
    · rw [List.getElem?_drop, List.getElem?_drop, List.getElem?_set, if_neg (by omega)]
    · rfl
def subM (v : Value) (l h : Nat) : Value :=
  match v with
  | .slice a _ _ => sliced a l h h 1
  | v => v
theorem subM_eq {v : Value} {l h : Nat} (hv : IsS v) (hlh : l < h) (hc : h ≤ sCap v) : subM v l h = .slice (some ⟨sBlk v, sOff v + l, none⟩) (h - l) (h - l) := by
  have hv2 := hv.out (by omega)
  rw [hv2]
  simp only [subM, sliced, sBlk_mk, sOff_mk, if_neg (show ¬ h = l by omega), Option.map_some, Nat.mul_one, Addr.add_mk]
@[go_sem] theorem run_slice_S_lhm {P : Program} {w : World} (t : TypeId) (v : Value) (kl kh km : IntKind) (l h : Int) (hv : IsS v) (ht : P.underlying t = some (.slice (P.elem t))) (hsz : (sizeOf (P.elem t)).run P w = .ok 1 w) :
    (Instr.slice t v (some (.int kl l)) (some (.int kh h)) (some (.int km h))).run P w = if 0 ≤ l ∧ l ≤ h ∧ h ≤ sCap v then .ok (subM v l.toNat h.toNat) w else (Instr.slice t v (some (.int kl l)) (some (.int kh h)) (some (.int km h))).run P w := by
  split
  · rename_i hb
    match v, hv with
    | .slice a n c, hv => exact (run_slice_lhm (P := P) w t a n c ht kl kh km l h h hb.1 hb.2.1 (Int.le_refl _) hb.2.2).trans (by simp only [hsz, Result.andThen_ok]; rfl)
  · rfl
theorem Own.subM {w : World} {B : Nat} {e : TypeId} {v : Value} {xs : List Value} (h : Own w B e v xs) {l n : Nat} (h1 : l < n) (h2 : n ≤ xs.length) :
    Own w B e (subM v l n) ((xs.take n).drop l) := by
  have hl := h.len
  have hcap := h.isS.le
  have hc2 := h.cap
  rw [subM_eq h.isS h1 (by omega)]
  refine ⟨IsS.mk (Nat.le_refl _), by simp; omega, by rw [sCap_mk]; omega, ?_⟩
  rcases h.row with h0 | ⟨hb, cur, hg, hsz, ht⟩
  · omega
  · refine .inr ⟨hb, cur, hg, ?_, ?_⟩
    · show sOff v + l + (n - l) ≤ cur.size
      omega
    · show (cur.toList.drop (sOff v + l)).take _ = _
      have e1 : ((xs.take n).drop l).length = n - l := by simp; omega
      rw [e1]
      conv => rhs; rw [← ht]
      rw [List.take_take, List.drop_take, List.drop_drop, show min n xs.length = n by omega]
structure SiP (q n B L : Nat) (v x v' : Value) (w w' : World) : Prop where
  row : w'.heap[q]? = some (.cells #[v'] 160 (0, 0))
  own : ∃ ys : List Value, L ≤ ys.length ∧ ys.length ≤ L + n + 3 ∧ Own w' B 98 v' ys
  ownx : ∃ zs : List Value, zs.length = n ∧ Own w' B 98 x zs
  pos : sBlk x = sBlk v' ∧ sOff x = sOff v' + L ∧ sCap x = n ∧ L + n ≤ sLen v'
  at' : (sBlk v' = sBlk v ∧ sOff v' = sOff v ∧ 0 < sCap v) ∨ w.heap.size ≤ sBlk v'
  below : Below B w w'
  frame : ∀ k, k < w.heap.size → k ≠ q → (0 < sCap v → k ≠ sBlk v) → w'.heap[k]? = w.heap[k]?
  live : ∀ y ys, Own w B 98 y ys → (0 < sCap v → sBlk y = sBlk v → sOff y + sCap y ≤ sOff v + L) → Own w' B 98 y ys
set_option maxRecDepth 100000 in
set_option maxHeartbeats 1600000 in
theorem sinat_any (q n B L : Nat) (v : Value) (xs : List Value) (w : World) (hrow : w.heap[q]? = some (.cells #[v] 160 (0, 0))) (ho : Own w B 98 v xs) (hL : xs.length = L) (hB : B ≤ w.heap.size) (hBq : B ≤ q) (hn0 : 0 < n) (hn : n ≤ 1000000) (hl : L ≤ 1000000) :
    Calls Tryz.prog 161 #[.pointer (some ⟨q, 0, none⟩), .int .i64 n] w fun e w' => ∃ x v', e = .returned x ∧ SiP q n B L v x v' w w' := by
  have hS := ho.isS
  have hLv : sLen v = L := by rw [ho.len, hL]
  have hC := hS.le
  obtain ⟨m, hm⟩ : ∃ m, m = (n + 3) / 4 * 4 := ⟨_, rfl⟩
  have hm1 : n ≤ m ∧ m ≤ n + 3 := by omega
  have e1 : bits .andNot .i64 ((n : Int) + 3) 3 = (m : Int) := by rw [hm]; exact i64_up4 (a := n + 3) (by omega)
  obtain ⟨hm2, hm3⟩ := hm1
  obtain ⟨c0, f0⟩ := row_at (i := 0) hrow rfl
  have hql := get_lt hrow
  have HR := Lib.hid hrow
  have HO := Lib.hid ho
  have HL := Lib.hid hL
  have HB := Lib.hid hB
  have HGR := Lib.hid (growW_any v xs m B w ho (by omega) (by omega) hB)
  rw [hL] at HGR
  clear hrow ho hL hm hB
  go_enter Tryz.func161, Tryz.ntmps161
  go_wp2_with fail
  refine HGR.out.mono ?_
  rintro _ w1 ⟨r, rfl, hgr⟩
  obtain ⟨ys, hys, hor⟩ := hgr.own
  have hroom := hgr.room
  have hSr := hor.isS
  have hLr : sLen r = L := by rw [hor.len, hys]
  have hb1 : Below w.heap.size w w1 := by
    rcases hgr.how with ⟨rfl, -⟩ | ⟨-, -, h⟩
    · exact Below.refl _ _
    · exact h
  have rq1 := keep_row hb1 HR.out
  obtain ⟨c1, f1⟩ := row_at (i := 0) rq1 rfl
  have rq2 := rowset (i := 0) r rq1
  obtain ⟨zs, hzs, hoz⟩ := hor.grow (n := L + m) hroom
  have hSz := hoz.isS
  have hLz : sLen (subS r 0 (L + m)) = L + m := by rw [hoz.len, hzs]
  have hCz : sCap (subS r 0 (L + m)) = sCap r := subS_cap hSr
  have rq3 := rowset (i := 0) (subS r 0 (L + m)) rq2
  have hoz2 := ((hoz.away rq1 (by decide) 0 r).away rq2 (by decide) 0 (subS r 0 (L + m)))
  have hx := hoz2.subM (l := L) (n := L + n) (by omega) (by omega)
  have hxe := subM_eq (l := L) (h := L + n) hSz (by omega) (by omega)
  rw [(sub0 hSr).1, (sub0 hSr).2, Nat.add_sub_cancel_left] at hxe
  have hbk : sBlk (subM (subS r 0 (L + m)) L (L + n)) = sBlk r := by rw [hxe]; rfl
  have hof : sOff (subM (subS r 0 (L + m)) L (L + n)) = sOff r + L := by rw [hxe]; rfl
  have hcp : sCap (subM (subS r 0 (L + m)) L (L + n)) = n := by rw [hxe]; rfl
  have hln : sLen (subM (subS r 0 (L + m)) L (L + n)) = n := by rw [hxe]; simp
  obtain ⟨X, hX⟩ : ∃ X, subM (subS r 0 (L + m)) L (L + n) = X := ⟨_, rfl⟩
  rw [hX] at hx hbk hof hcp hln
  have hSx : IsS X := hx.isS
  have hxl : (((zs.take (L + n)).drop L)).length = n := by simp; omega
  obtain ⟨u0, hu0⟩ : ∃ u, ((zs.take (L + n)).drop L)[0]? = some u := ⟨_, List.getElem?_eq_getElem (by omega)⟩
  have cx := hx.cell hu0
  have hcx : 0 < sCap X := by omega
  have fx := hx.frozen hcx (sOff X)
  have hxs := hx.set (i := 0) (by omega) (.int .u64 1043915)
  have hBx := (hx.lt hcx).1
  rw [Nat.add_zero] at cx hxs
  have Q : Hid (SiP q n B L v X (subS r 0 (L + m)) w (((w1.setCell ⟨q, 0, none⟩ r).setCell ⟨q, 0, none⟩ (subS r 0 (L + m))).setCell ⟨sBlk X, sOff X, none⟩ (.int .u64 1043915))) := Lib.hid (by
    have hqr : q ≠ sBlk r := by
      intro he
      rcases hor.row with h0 | ⟨-, cur, hg, -⟩
      · omega
      · rw [← he, rq1] at hg
        have h5 := Option.some.inj hg
        injection h5 with h6 h7
        exact absurd h7 (by decide)
    have hb3 : Below B w (((w1.setCell ⟨q, 0, none⟩ r).setCell ⟨q, 0, none⟩ (subS r 0 (L + m))).setCell ⟨sBlk X, sOff X, none⟩ (.int .u64 1043915)) :=
      bset (bset (bset (hb1.mono HB.out) hBq) hBq) hBx
    refine ⟨?_, ⟨_, ?_, ?_, hoz2.set (i := L) (by omega) (.int .u64 1043915) |> fun h => by rw [(sub0 hSr).1, (sub0 hSr).2] at h; rw [hbk, hof]; exact h⟩, ⟨_, by rw [List.length_set]; exact hxl, hxs⟩, ⟨by rw [hbk, (sub0 hSr).1], by rw [hof, (sub0 hSr).2], hcp, by omega⟩, ?_, hb3, ?_, ?_⟩
    · rw [heap_setCell_other _ _ _ _ (by simp only; rw [hbk]; exact hqr)]; exact rq3
    · rw [List.length_set]; omega
    · rw [List.length_set]; omega
    · rw [(sub0 hSr).1, (sub0 hSr).2]
      rcases hgr.how with ⟨-, rfl⟩ | ⟨h, -, -⟩
      · exact .inl ⟨rfl, rfl, by omega⟩
      · exact .inr h
    · intro k hk hkq hkv
      have hkr : k ≠ sBlk r := by
        rcases hgr.how with ⟨-, rfl⟩ | ⟨h, -, -⟩
        · exact hkv (by omega)
        · omega
      rw [heap_setCell_other _ _ _ _ (by simp only; rw [hbk]; exact hkr), heap_setCell_other _ _ _ _ (by simp only; exact hkq), heap_setCell_other _ _ _ _ (by simp only; exact hkq)]
      exact hb1.block k hk
    · intro y ys' hy hlive
      have hy2 : Own ((w1.setCell ⟨q, 0, none⟩ r).setCell ⟨q, 0, none⟩ (subS r 0 (L + m))) B 98 y ys' := ((hy.below hb1).away rq1 (by decide) 0 r).away rq2 (by decide) 0 (subS r 0 (L + m))
      rw [hbk, hof]
      by_cases hyb : sBlk y = sBlk r
      · rw [← hyb]
        by_cases hyc0 : sCap y = 0
        · exact hy2.same fun h => by omega
        · refine hy2.beside _ ?_
          have hyl := hy.len
          have hyc := hy.isS.le
          rcases hgr.how with ⟨-, rfl⟩ | ⟨h, -, -⟩
          · have := hlive (by omega) hyb; omega
          · have := (hy.lt (by omega)).2; omega
      · exact hy2.same fun _ => heap_setCell_other _ _ _ _ (by simp only; exact hyb))
  clear hor hgr rq1 rq2 rq3 hoz hoz2 hx hu0 hxs hb1 hxe hxl hbk hof hcp
  go_wp2
  go_ret
  exact ⟨X, _, by rw [← hX]; rfl, Q.out⟩
end Go.Proofs.YtoddjkpckpekcaaGreatDoor
