/-
Texts of this proof, joined: VvD VvE DvE DvF DvG DvH. No condition.
-/
import Derived.Test.YtlgnaioodnhkjaaK02
import Derived.Test.YtlgnaioodnhkjaaK04
import Derived.Test.YtlgnaioodnhkjaaK06
import Derived.Test.YtlgnaioodnhkjaaK11
import Derived.Test.YtlgnaioodnhkjaaK12
/-
The package's numbers: make, set, add of whatever receiver. No condition.
-/
namespace Go.Proofs.Ytlgnaioodnhkjaa
open Go.RowKit

/-- Nothing but what was new and the receiver's own block has turned. -/
def Fr (z : Value) (w w' : World) : Prop := ∀ k, k < w.heap.size → (0 < sCap z → k ≠ sBlk z) → w'.heap[k]? = w.heap[k]?
theorem Fr.refl (z : Value) (w : World) : Fr z w w := fun _ _ _ => rfl
theorem Fr.ofBelow {z : Value} {w w' : World} (h : Below w.heap.size w w') : Fr z w w' := fun k hk _ => h.block k hk
theorem Fr.trans {z : Value} {w1 w2 w3 : World} (h : Fr z w1 w2) (hs : w1.heap.size ≤ w2.heap.size) (k : Fr z w2 w3) : Fr z w1 w3 := fun i hi hn => (k i (by omega) hn).trans (h i hi hn)
theorem Fr.row {z : Value} {w w' : World} (h : Fr z w w') {k : Nat} {o : Obj} (hr : w.heap[k]? = some o) (hn : 0 < sCap z → k ≠ sBlk z) : w'.heap[k]? = some o := (h k (get_lt hr) hn).trans hr
/-- An operand lies elsewhere than the receiver, or right there. -/
def Al (z x : Value) : Prop := 0 < sCap z → sBlk x = sBlk z → sOff x = sOff z
theorem Al.nil (x : Value) : Al (.slice none 0 0) x := fun h => absurd h (by decide)
/-- What make gives. -/
structure MkP (z r : Value) (n B : Nat) (w w' : World) : Prop where
  own : ∃ ys : List Value, ys.length = n ∧ Own w' B 112 r ys
  how : (w' = w ∧ r = subS z 0 n ∧ n ≤ sCap z) ∨ (w.heap.size ≤ sBlk r ∧ sOff r = 0 ∧ Below w.heap.size w w')
set_option maxRecDepth 100000 in
theorem make_any (z : Value) (zs : List Value) (n B : Nat) (w : World) (hz : Own w B 112 z zs) (hn : n ≤ 1000000000) (hB : B ≤ w.heap.size) :
    Calls Try.prog 117 #[z, .int .i64 n] w fun e w' => ∃ r, e = .returned r ∧ MkP z r n B w w' := by
  have hS := hz.isS
  by_cases hc : n ≤ sCap z
  · have t1 : decide ((n : Int) ≤ (sCap z : Int)) = true := decide_eq_true (by omega)
    have t1' : decide (n ≤ sCap z) = true := decide_eq_true hc
    obtain ⟨ys, h1, h2⟩ := hz.grow hc
    have Q : Hid (MkP z (subS z 0 n) n B w w) := Lib.hid ⟨⟨ys, h1, h2⟩, .inl ⟨rfl, rfl, hc⟩⟩
    have hS2 := h2.isS
    clear hz h1 h2
    go_enter Try.func117, Try.ntmps117
    go_wp2
    go_ret
    exact ⟨_, rfl, Q.out⟩
  · have t1 : decide ((n : Int) ≤ (sCap z : Int)) = false := decide_eq_false (by omega)
    have t1' : decide (n ≤ sCap z) = false := decide_eq_false hc
    have hn0 : 0 < n := by omega
    have HB := Lib.hid hB
    clear hz hc hB
    by_cases h1 : n = 1
    · subst h1
      have t2 : decide ((1 : Int) ≤ (sCap z : Int)) = false := t1
      go_enter Try.func117, Try.ntmps117
      go_wp2_with (at_make; refine wpList_make_O rfl _ _ _ rfl elemT .i64 .i64 _ _ rfl rfl w.heap.size ?c1 ?c2 ?c3 ?c4 ?c5 ?_)
      case c1 => omega
      case c2 => omega
      case c3 => omega
      case c4 => omega
      case c5 => exact Nat.le_refl _
      rintro v w1 rfl ho hb hz
      have Q := Lib.hid (⟨⟨_, by simp, ho.mono HB.out⟩, .inr ⟨by simp, by simp, hb⟩⟩ : MkP z (.slice (some ⟨w.heap.size, 0, none⟩) 1 1) 1 B w w1)
      clear ho hb
      go_wp2
      go_ret
      exact ⟨_, rfl, Q.out⟩
    · have t2 : ((n : Int) == 1) = false := by rw [beq_eq_false_iff_ne]; omega
      clear h1
      go_enter Try.func117, Try.ntmps117
      go_wp2_with (at_make; refine wpList_make_O rfl _ _ _ rfl elemT .i64 .i64 _ _ rfl rfl w.heap.size ?c1 ?c2 ?c3 ?c4 ?c5 ?_)
      case c1 => omega
      case c2 => omega
      case c3 => omega
      case c4 => omega
      case c5 => exact Nat.le_refl _
      rintro v w1 rfl ho hb hz
      have Q := Lib.hid (⟨⟨_, by simp, ho.mono HB.out⟩, .inr ⟨by simp, by simp, hb⟩⟩ : MkP z (.slice (some ⟨w.heap.size, 0, none⟩) n ((n : Int) + 4).toNat) n B w w1)
      clear ho hb
      go_wp2
      go_ret
      exact ⟨.slice (some ⟨w.heap.size, 0, none⟩) n ((n : Int) + 4).toNat, rfl, Q.out⟩
theorem MkP.below {z r : Value} {n B : Nat} {w w' : World} (h : MkP z r n B w w') : Below w.heap.size w w' := by
  rcases h.how with ⟨rfl, -⟩ | ⟨-, -, hb⟩
  · exact Below.refl _ _
  · exact hb
theorem MkP.al {z r x : Value} {n B : Nat} {xs : List Nat} {w w' : World} (h : MkP z r n B w w') (hz : IsS z) (hn : 0 < n) (ha : Al z x) (hx : RW w x xs) (hl : 0 < xs.length) : sBlk x = sBlk r → sOff x = sOff r := by
  rcases h.how with ⟨-, rfl, hc⟩ | ⟨h1, h2, -⟩
  · rw [subS_blk hz, subS_off0 hz]; exact ha (by omega)
  · intro he
    have := hx.ri.lt (by rw [ints_length]; exact hl)
    omega
/-- What is written in the made slice: the frame of the receiver. -/
theorem MkP.fr {z r : Value} {n B : Nat} {w w1 w2 : World} (h : MkP z r n B w w1) (hz : IsS z) (hn : 0 < n) (_hs : w1.heap.size ≤ w2.heap.size) (ho : Only (sBlk r) w1 w2) : Fr z w w2 := by
  intro k hk hne
  rcases h.how with ⟨rfl, rfl, hc⟩ | ⟨h1, h2, hb⟩
  · exact ho k hk (by rw [subS_blk hz]; exact hne (by omega))
  · exact (ho k (Nat.lt_of_lt_of_le hk hb.size) (by omega)).trans (hb.block k hk)
theorem FrB.ro {b lo hi : Nat} {w w' : World} {v : Value} {ws : List Nat} (h : FrB b lo hi w w') (hv : RO w v ws) (hn : sBlk v = b → sOff v + ws.length ≤ lo ∨ hi ≤ sOff v) : RO w' v ws := by
  refine ⟨h.rw hv.rw hn, fun hl => ?_⟩
  obtain ⟨c, hr⟩ := hv.row hl
  by_cases hb : sBlk v = b
  · obtain ⟨c', h1, -, -⟩ := h.row c _ (0, 0) (hb ▸ hr)
    exact ⟨c', hb ▸ h1⟩
  · exact ⟨c, (h.only _ (get_lt hr) hb).trans hr⟩
/-- A store into a row of another type. -/
theorem RO.away {w : World} {x : Value} {xs : List Nat} {b i T : Nat} {cs : Array Value} {u : Value} (h : RO w x xs) (hr : w.heap[b]? = some (.cells cs T (0, 0))) (hT : T ≠ 112) : RO (w.setCell ⟨b, i, none⟩ u) x xs := by
  have hne : 0 < xs.length → sBlk x ≠ b := fun hl he => by
    obtain ⟨c, h1⟩ := h.row hl
    rw [he, hr] at h1
    exact hT (by injection (Option.some.inj h1))
  refine ⟨⟨⟨h.rw.isS, h.rw.ri.len, fun j hj => ?_⟩, h.rw.lt⟩, fun hl => ?_⟩
  · rw [cell_other (by simpa using fun he => hne (by rw [ints_length] at hj; omega) he.symm)]
    exact h.rw.ri.cell j hj
  · obtain ⟨c, h1⟩ := h.row hl
    exact ⟨c, (heap_setCell_other _ _ _ _ (by simpa using hne hl)).trans h1⟩
theorem RO.fr {w w' : World} {z x : Value} {xs : List Nat} (h : RO w x xs) (hf : Fr z w w') (hne : 0 < sCap z → sBlk x ≠ sBlk z) : RO w' x xs := by
  refine ⟨⟨⟨h.rw.isS, h.rw.ri.len, fun j hj => ?_⟩, h.rw.lt⟩, fun hl => ?_⟩
  · have hc := h.rw.ri.cell j hj
    exact (World.cell?_of_block (hf _ (World.block_lt_of_cell? w _ hc) hne)).trans hc
  · obtain ⟨c, h1⟩ := h.row hl
    exact ⟨c, hf.row h1 hne⟩
set_option maxRecDepth 100000 in
theorem set_any (z x : Value) (zs : List Value) (xs : List Nat) (B : Nat) (w : World) (hz : Own w B 112 z zs) (hx : RW w x xs) (hl : xs.length ≤ 1000000000) (hB : B ≤ w.heap.size) :
    Calls Try.prog 123 #[z, x] w fun e w' => ∃ r, e = .returned r ∧ Own w' B 112 r (cellsW xs) ∧ Below B w w' ∧ Fr z w w' := by
  have hS := hx.isS
  have hL := hx.len
  have hSz := hz.isS
  have HX := Lib.hid hx
  have HZ := Lib.hid hz
  have HB := Lib.hid hB
  clear hx hz hB
  go_enter Try.func123, Try.ntmps123
  go_wp2_with fail
  refine (make_any z zs xs.length B w HZ.out hl HB.out).mono ?_
  rintro _ w1 ⟨r, rfl, hm⟩
  obtain ⟨ys, hy, ho⟩ := hm.own
  have hSr := ho.isS
  have hLr : sLen r = xs.length := by rw [ho.len, hy]
  have HO := Lib.hid ho
  have HM := Lib.hid hm
  have HY := Lib.hid hy
  clear ho hm hy
  go_wp2_with (refine wpList_copy_W (o := ⟨some 11, _, _, _, _, _⟩) rfl (.tmp 9) (.tmp 10) 87 87 rfl 112 Try.underlying87 sizeW _ _ rfl rfl B ys HO.out (cellsW xs) ?d1 hS ?d2 ?d3 (cellsW_one xs) ?_)
  case d1 => rw [cellsW_length, HY.out]
  case d2 => rw [cellsW_length]; exact hL
  case d3 => exact (HX.out.below HM.out.below).at
  intro w2 ho2 hb2 hf2 hw2
  have Q : Hid (Own w2 B 112 r (cellsW xs) ∧ Below B w w2 ∧ Fr z w w2) := Lib.hid ⟨ho2, (HM.out.below.mono HB.out).trans hb2, by
    rcases Nat.eq_zero_or_pos xs.length with h0 | h0
    · intro k hk hne
      rw [hw2 (by rw [show xs = [] from List.eq_nil_of_length_eq_zero h0]; rfl)]
      exact HM.out.below.block k hk
    · exact HM.out.fr hSz h0 hb2.size hf2.only⟩
  clear ho2 hb2 hf2 hw2
  go_wp2
  go_ret
  exact ⟨_, rfl, Q.out⟩
end Go.Proofs.Ytlgnaioodnhkjaa

/-
The package's numbers: add of whatever receiver. No condition.
-/
namespace Go.Proofs.Ytlgnaioodnhkjaa
open Go.RowKit

/-- A number that lies new, or in the receiver. -/
structure NatR (z r : Value) (N B : Nat) (w w' : World) : Prop where
  own : Own w' B 112 r (cellsW (wds N))
  below : Below B w w'
  fr : Fr z w w'
theorem sub0 {v : Value} {n : Nat} (hS : IsS v) : sBlk (subS v 0 n) = sBlk v ∧ sOff (subS v 0 n) = sOff v := ⟨subS_blk hS, subS_off0 hS⟩
theorem wv_wdsN_lt {Z n : Nat} (h : Z < 18446744073709551616 ^ n) : wv (wdsN Z n) = Z := by rw [wdsN_wv, Nat.mod_eq_of_lt h]
end Go.Proofs.Ytlgnaioodnhkjaa

/-
A number by a word: divW. No condition.
-/
namespace Go.Proofs.Ytlgnaioodnhkjaa
open Go.RowKit

set_option maxRecDepth 100000 in
set_option maxHeartbeats 3200000 in
theorem divW_any (z x : Value) (zs : List Value) (xs : List Nat) (y B : Nat) (w : World) (hz : Own w B 112 z zs) (hx : RO w x xs) (ax : Al z x) (hy1 : 1 < y) (hy : y < 18446744073709551616) (h0 : 0 < xs.length) (hl : xs.length ≤ 100000000) (hB : B ≤ w.heap.size) :
    Calls Try.prog 100 #[z, x, .int .u64 y] w fun e w' => ∃ q, e = .returned (.tuple #[q, .int .u64 ((wv xs % y : Nat) : Int)]) ∧ NatR z q (wv xs / y) B w w' := by
  have hS := hz.isS
  have hSx := hx.rw.isS
  obtain ⟨m, hm⟩ : ∃ m, m = xs.length := ⟨_, rfl⟩
  have hLx : sLen x = m := by rw [hx.rw.len, hm]
  have hy0 : 0 < y := by omega
  have t1 : ((y : Int) == 0) = false := by rw [beq_eq_false_iff_ne]; omega
  have t2 : ((y : Int) == 1) = false := by rw [beq_eq_false_iff_ne]; omega
  have hmp : 0 < m := by omega
  have t3 : ((m : Int) == 0) = false := by rw [beq_eq_false_iff_ne]; omega
  have hml : m ≤ 100000000 := by omega
  have hMb : wv xs % y < 18446744073709551616 := Nat.lt_trans (Nat.mod_lt _ hy0) hy
  have HM := Lib.hid hm
  have HZ := Lib.hid hz
  have HX := Lib.hid hx
  have HAX := Lib.hid ax
  have HB := Lib.hid hB
  obtain ⟨S, hSS⟩ : ∃ S, S = wv xs / y := ⟨_, rfl⟩
  obtain ⟨R, hR⟩ : ∃ R, R = wv xs % y := ⟨_, rfl⟩
  have HSS := Lib.hid hSS
  have HRR := Lib.hid hR
  rw [← hR] at hMb
  rw [← hSS, ← hR]
  have HSL : Hid (S < 18446744073709551616 ^ m) := Lib.hid (by rw [hSS, hm]; exact Nat.lt_of_le_of_lt (Nat.div_le_self _ _) (wv_lt hx.rw.lt))
  clear hz hx ax hB hm hSS hR h0 hl
  go_enter Try.func100, Try.ntmps100
  go_wp2_with fail
  refine (make_any z zs m B w HZ.out (by omega) HB.out).mono ?_
  rintro _ w1 ⟨q, rfl, hmk⟩
  obtain ⟨os, hos, hor⟩ := hmk.own
  have hSr := hor.isS
  have hLr : sLen q = m := by rw [hor.len, hos]
  have hcr : m ≤ sCap q := by have := hSr.le; omega
  have hcr0 : 0 < sCap q := by omega
  have hX1 := HX.out.below hmk.below
  have aX := hmk.al hS hmp HAX.out HX.out.rw (by rw [← HM.out]; exact hmp)
  have HCALL : Hid (Calls Try.prog 128 #[q, .int .u64 0, x, .int .u64 y] w1 fun e w' => e = .returned (.int .u64 (R : Int)) ∧ VvP q m B S w1 w') := Lib.hid (by
    have := divWVW_any q x os xs y B w1 hor hX1.rw (by rw [hos, HM.out]) (fun h => by rw [aX h]; exact Nat.le_refl _) (by rw [← HM.out]; exact hmp) (by rw [← HM.out]; omega) hy0 hy
    rw [← HM.out, ← HSS.out, ← HRR.out] at this
    exact this)
  have HFIN : Hid (∀ w2, VvP q m B S w1 w2 → Calls Try.prog 129 #[q] w2 fun e w' => e = .returned (subS q 0 (nw S)) ∧ w2 = w' ∧ NatR z (subS q 0 (nw S)) S B w w2) := Lib.hid (fun w2 hvp => by
    obtain ⟨g1, g2, g3⟩ := hvp
    have hnum : wv (wdsN S m) = S := wv_wdsN_lt HSL.out
    have hN := norm_any q _ _ (g1.rw' wdsN_lt) (by rw [wdsN_length]; omega)
    have hT := g1.takeW wdsN_lt
    rw [hnum] at hN hT
    exact hN.mono (fun e w' h => ⟨h.1, h.2, hT, (hmk.below.mono HB.out).trans g2, hmk.fr hS hmp g2.size g3.only⟩))
  clear hor hos hmk hX1 aX
  go_wp2_with fail
  refine HCALL.out.mono ?_
  rintro _ w2 ⟨rfl, hvp⟩
  have HQ := Lib.hid (HFIN.out w2 hvp)
  clear hvp
  go_wp2_with fail
  refine HQ.out.mono ?_
  rintro _ _ ⟨rfl, rfl, hn⟩
  have Q := Lib.hid hn
  have hSq := hn.own.isS
  clear hn
  go_wp2
  go_ret2
  exact ⟨_, rfl, Q.out⟩
end Go.Proofs.Ytlgnaioodnhkjaa

/-
A number by a word, of a new receiver: divW at every divisor, ZZDivW. No condition.
-/
namespace Go.Proofs.Ytlgnaioodnhkjaa
open Go.RowKit

set_option maxRecDepth 100000 in
set_option maxHeartbeats 800000 in
theorem divW_one (x : Value) (xs : List Nat) (w : World) (hx : RW w x xs) (hl : xs.length ≤ 100000000) :
    Calls Try.prog 100 #[.slice none 0 0, x, .int .u64 1] w fun e w' => ∃ q, e = .returned (.tuple #[q, .int .u64 0]) ∧ Own w' w.heap.size 112 q (cellsW xs) ∧ Below w.heap.size w w' := by
  have hSx := hx.isS
  have HX := Lib.hid hx
  clear hx
  go_enter Try.func100, Try.ntmps100
  go_wp2_with fail
  refine (set_nil x xs w HX.out (by omega)).mono ?_
  rintro _ w1 ⟨q, rfl, ho, hb⟩
  have hSq := ho.isS
  have HO := Lib.hid ho
  clear ho
  go_wp2
  go_ret2
  exact ⟨_, rfl, HO.out, hb⟩
set_option maxRecDepth 100000 in
set_option maxHeartbeats 800000 in
theorem divW_none (x : Value) (y : Nat) (w : World) (hx : RW w x []) (hy1 : 1 < y) :
    Calls Try.prog 100 #[.slice none 0 0, x, .int .u64 y] w fun e w' => e = .returned (.tuple #[.slice none 0 0, .int .u64 0]) ∧ w' = w := by
  have hSx := hx.isS
  have hLx : sLen x = 0 := hx.len
  have t1 : ((y : Int) == 0) = false := by rw [beq_eq_false_iff_ne]; omega
  have t2 : ((y : Int) == 1) = false := by rw [beq_eq_false_iff_ne]; omega
  clear hx
  go_enter Try.func100, Try.ntmps100
  go_wp2
  go_ret2
  exact ⟨rfl, rfl⟩
/-- What the door gives: a quotient that reads, its words' number as it is. -/
structure DivQ (q : Value) (Q B L : Nat) (w w' : World) : Prop where
  rd : ∃ qs, RW w' q qs ∧ wv qs = Q ∧ qs.length ≤ L
  below : Below B w w'
theorem nw_div_le {xs : List Nat} (h : ∀ d ∈ xs, d < 18446744073709551616) (y : Nat) : nw (wv xs / y) ≤ xs.length :=
  nw_le (Nat.lt_of_le_of_lt (Nat.div_le_self _ _) (wv_lt h))
theorem divW_nil (x : Value) (xs : List Nat) (y B : Nat) (w : World) (hx : RO w x xs) (hy0 : 0 < y) (hy : y < 18446744073709551616) (hl : xs.length ≤ 100000000) (hB : B ≤ w.heap.size) :
    Calls Try.prog 100 #[.slice none 0 0, x, .int .u64 y] w fun e w' => ∃ q, e = .returned (.tuple #[q, .int .u64 ((wv xs % y : Nat) : Int)]) ∧ DivQ q (wv xs / y) B xs.length w w' := by
  by_cases h1 : y = 1
  · subst h1
    refine (divW_one x xs w hx.rw hl).mono ?_
    rintro _ w' ⟨q, rfl, ho, hb⟩
    exact ⟨q, by rw [Nat.mod_one]; rfl, ⟨⟨xs, ho.rw' hx.rw.lt, (Nat.div_one _).symm, Nat.le_refl _⟩, hb.mono hB⟩⟩
  · rcases Nat.eq_zero_or_pos xs.length with h0 | h0
    · have hn : xs = [] := List.eq_nil_of_length_eq_zero h0
      subst hn
      refine (divW_none x y w hx.rw (by omega)).mono ?_
      rintro _ _ ⟨rfl, rfl⟩
      refine ⟨_, by rw [show wv [] % y = 0 from Nat.zero_mod y]; rfl, ⟨⟨[], ⟨⟨IsS.nil, rfl, fun i hi => by simp [ints] at hi⟩, fun d hd => by cases hd⟩, (Nat.zero_div y).symm, Nat.le_refl _⟩, Below.refl _ _⟩⟩
    · refine (divW_any (.slice none 0 0) x [] xs y B w (Own.nil _ _ _) hx (Al.nil x) (by omega) hy h0 hl hB).mono ?_
      rintro _ w' ⟨q, rfl, hn⟩
      exact ⟨q, rfl, ⟨⟨wds (wv xs / y), hn.own.rw' (fun d hd => wds_lt hd), wv_wds _, by rw [wds_length]; exact nw_div_le hx.rw.lt y⟩, hn.below⟩⟩
set_option maxRecDepth 100000 in
set_option maxHeartbeats 800000 in
theorem zzDivW_any (x : Value) (xs : List Nat) (y B : Nat) (w : World) (hx : RW w x xs) (hy0 : 0 < y) (hy : y < 18446744073709551616) (hl : xs.length ≤ 100000000) (hB : B ≤ w.heap.size) :
    Calls Try.prog 58 #[x, .int .u64 y] w fun e w' => ∃ q, e = .returned (.tuple #[q, .int .u64 ((wv xs % y : Nat) : Int)]) ∧ DivQ q (wv xs / y) B xs.length w w' := by
  have hSx := hx.isS
  have HX := Lib.hid hx
  have HB := Lib.hid hB
  obtain ⟨R, hR⟩ : ∃ R, R = wv xs % y := ⟨_, rfl⟩
  have HR := Lib.hid hR
  rw [← hR]
  have HQ : Hid (∀ v w1, Own w1 w.heap.size 112 v (cellsW xs) → Below w.heap.size w w1 → Calls Try.prog 100 #[.slice none 0 0, v, .int .u64 y] w1 fun e w' => ∃ q, e = .returned (.tuple #[q, .int .u64 (R : Int)]) ∧ IsS q ∧ DivQ q (wv xs / y) B xs.length w w') := Lib.hid (fun v w1 h1 h2 => by
    rw [HR.out]
    refine (divW_nil v xs y B w1 (h1.ro HX.out.lt) hy0 hy hl (Nat.le_trans HB.out h2.size)).mono ?_
    rintro _ w' ⟨q, rfl, hq⟩
    obtain ⟨qs, h3, h4, h5⟩ := hq.rd
    exact ⟨q, rfl, h3.isS, ⟨⟨qs, h3, h4, h5⟩, (h2.mono HB.out).trans hq.below⟩⟩)
  clear hx hB hR
  go_enter Try.func58, Try.ntmps58
  go_wp2_with (at_builtin; refine wpList_append_O rfl _ _ _ _ rfl elemT w.heap.size _ _ rfl (Own.nil _ _ _) _ rfl _ _ (HX.out.src Try.underlying86) ?c3 ?c4 ?c5 ?_)
  case c3 => simp; unfold maxLen; omega
  case c4 => simp; omega
  case c5 => simp
  rintro v1 w1 ho1 hb1 - - -
  have hS1 := ho1.isS
  have HO1 := Lib.hid ho1
  clear ho1
  go_wp2_with fail
  refine (HQ.out v1 w1 (by simpa using HO1.out) hb1).mono ?_
  rintro _ w2 ⟨q, rfl, hSq, hq⟩
  have Q := Lib.hid hq
  clear hq
  go_wp2
  go_ret2
  exact ⟨_, rfl, Q.out⟩
end Go.Proofs.Ytlgnaioodnhkjaa

/-
The thin package's DivWord. No condition.
-/
namespace Go.Proofs.Ytlgnaioodnhkjaa
open Go.RowKit

/-- A slice that takes the words one by one. -/
def AccW (T : TypeId) (ws : List Nat) (B k : Nat) (w : World) (v : Value) (wr : World) : Prop := Own wr B T v (cellsW (ws.take k)) ∧ Below B w wr
theorem AccW.step {T : TypeId} {ws : List Nat} {B k : Nat} {w w1 : World} {v1 : Value} (hk : k < ws.length) (h : Own w1 B T v1 (cellsW (ws.take k) ++ [.int .u64 ((ws.getD k 0 : Nat) : Int)])) (hb : Below B w w1) : AccW T ws B (k + 1) w v1 w1 := by
  refine ⟨?_, hb⟩
  rw [cellsW_snoc] at h
  rw [List.take_succ_eq_append_getElem hk]
  simpa [List.getD_eq_getElem?_getD, List.getElem?_eq_getElem hk] using h
/-- Trimmed words: what the last loop leaves. -/
theorem trim_wds {qs : List Nat} {w : World} {v : Value} {k Q : Nat} (hd : ∀ d ∈ qs, d < 18446744073709551616) (h : RW w v (qs.take k)) (hk : k ≤ qs.length) (hv : wv (qs.take k) = wv qs) (hQ : wv qs = Q) (hl : k = 0 ∨ qs.getD (k - 1) 0 ≠ 0) : RW w v (wds Q) := by
  rw [(take_norm hd hk hv hl).2, hQ] at h
  exact h
/-- What DivWord answers. -/
def DWPost (Q R B : Nat) (w : World) (v : Value) (w' : World) : Prop := ∃ q, v = .tuple #[q, .int .u64 (R : Int)] ∧ RW w' q (wds Q) ∧ Below B w w'
set_option maxRecDepth 100000 in
set_option maxHeartbeats 3200000 in
theorem impDivWord (x : Value) (xs : List Nat) (y : Nat) (w : World) (hx : RW w x xs) (hy0 : 0 < y) (hy : y < 18446744073709551616) (hl : xs.length ≤ 1000000) :
    Calls Try.prog 31 #[x, .int .u64 y] w fun e w' => ∃ v, e = .returned v ∧ DWPost (wv xs / y) (wv xs % y) w.heap.size w v w' := by
  have hSv := hx.isS
  have hLv := hx.len
  obtain ⟨la, hla⟩ : ∃ la, la = xs.length := ⟨_, rfl⟩
  rw [← hla] at hLv hl
  obtain ⟨R, hR⟩ : ∃ R, R = wv xs % y := ⟨_, rfl⟩
  obtain ⟨Q, hQ⟩ : ∃ Q, Q = wv xs / y := ⟨_, rfl⟩
  have HR := Lib.hid hR
  have HQ := Lib.hid hQ
  rw [← hR, ← hQ]
  have Hla := Lib.hid hla
  have Hv := Lib.hid hx
  have HD : Hid (∀ v w1, Own w1 w.heap.size 112 v (cellsW xs) → Below w.heap.size w w1 → Calls Try.prog 58 #[v, .int .u64 y] w1 fun e w' => ∃ q, e = .returned (.tuple #[q, .int .u64 (R : Int)]) ∧ DivQ q Q w.heap.size la w w') := Lib.hid (fun v w1 h1 h2 => by
    rw [HR.out, HQ.out, Hla.out]
    refine (zzDivW_any v xs y w.heap.size w1 (h1.rw' Hv.out.lt) hy0 hy (by rw [← Hla.out]; omega) h2.size).mono ?_
    rintro _ w' ⟨q, rfl, hq⟩
    exact ⟨q, rfl, ⟨hq.rd, h2.trans hq.below⟩⟩)
  clear hla hx hR hQ
  go_enter Try.func31, Try.ntmps31
  go_wp2
  go_loopw [6, 16] (fun v i wr => ∃ k : Nat, k ≤ la ∧ i = .int .i64 k ∧ AccW 112 xs w.heap.size k w v wr) (fun _ i _ => la - (intOf i).toNat)
  case atStart => exact ⟨0, Nat.zero_le _, rfl, Own.nil _ _ _, Below.refl _ _⟩
  case round =>
    obtain ⟨i, hi, rfl, hO, hbl⟩ := hrel
    have hbz := hbl.size
    have hSo : IsS u6 := hO.isS
    have HO := Lib.hid hO
    clear hO
    by_cases hia : i < la
    · have ca := (Hv.out.below hbl).cell i (by rw [← Hla.out]; exact hia)
      obtain ⟨d, hd⟩ : ∃ d, d = xs.getD i 0 := ⟨_, rfl⟩
      rw [← hd] at ca
      have Hd := Lib.hid hd
      clear hd
      have hlk : (cellsW (xs.take i)).length = i := by rw [cellsW_length]; have := Hla.out; simp; omega
      have Hlk := Lib.hid hlk
      clear hlk
      go_wp2_with (at_builtin; refine wpList_append_O rfl _ _ _ _ rfl elemW w.heap.size _ _ rfl (HO.out.alloc _) _ rfl 1 [.int .u64 (d : Int)] (srcOne Try.underlying86 wr _ _) ?c3 ?c4 ?c5 ?_)
      case c3 => rw [Hlk.out]; unfold maxLen; omega
      case c4 => rw [Hlk.out]; omega
      case c5 => simp; omega
      rintro v1 w1 ho1 hb1 - - -
      have hs := AccW.step (by rw [← Hla.out]; exact hia) (by rw [← Hd.out]; exact ho1) ((hbl.alloc hbz _).trans hb1)
      have Hs := Lib.hid hs
      clear hs ho1
      go_wp2
      go_roundw
      case rel => exact ⟨i + 1, by omega, by go_num, Hs.out⟩
      case measure => simp [intOf]; omega
    · have hil : i = la := by omega
      subst hil
      have hfull : xs.take i = xs := List.take_of_length_le (by rw [Hla.out]; exact Nat.le_refl _)
      have ho := HO.out
      rw [hfull] at ho
      have HCD := Lib.hid (HD.out u6 wr ho hbl)
      clear hfull ho
      go_wp2_with fail
      refine HCD.out.mono ?_
      rintro _ w2 ⟨q, rfl, hq⟩
      obtain ⟨⟨qs, hqr, hqv, hql⟩, hqb⟩ := hq
      have hSq := hqr.isS
      have hLq := hqr.len
      obtain ⟨lb, hlb⟩ : ∃ lb, lb = qs.length := ⟨_, rfl⟩
      rw [← hlb] at hLq hql
      have Hlb := Lib.hid hlb
      have Hqr := Lib.hid hqr
      have Hqv := Lib.hid hqv
      have hqz := hqb.size
      clear hlb hqr hqv
      go_wp2
      go_loopw [11, 33] (fun v i wr => ∃ k : Nat, k ≤ lb ∧ i = .int .i64 k ∧ AccW 23 qs w2.heap.size k w2 v wr) (fun _ i _ => lb - (intOf i).toNat)
      case atStart => exact ⟨0, Nat.zero_le _, rfl, Own.nil _ _ _, Below.refl _ _⟩
      case round =>
        obtain ⟨j, hj, rfl, hP, hbm⟩ := hrel
        have hbmz := hbm.size
        have hSp : IsS u11 := hP.isS
        have HP := Lib.hid hP
        clear hP
        by_cases hja : j < lb
        · have ca := (Hqr.out.below hbm).cell j (by rw [← Hlb.out]; exact hja)
          obtain ⟨d, hd⟩ : ∃ d, d = qs.getD j 0 := ⟨_, rfl⟩
          rw [← hd] at ca
          have Hd := Lib.hid hd
          clear hd
          have hlk : (cellsW (qs.take j)).length = j := by rw [cellsW_length]; have := Hlb.out; simp; omega
          have Hlk := Lib.hid hlk
          clear hlk
          go_wp2_with (at_builtin; refine wpList_append_O rfl _ _ _ _ rfl elemU w2.heap.size _ _ rfl (HP.out.alloc _) _ rfl 1 [.int .u64 (d : Int)] (srcOne Try.underlying48 wr _ _) ?c3 ?c4 ?c5 ?_)
          case c3 => rw [Hlk.out]; unfold maxLen; omega
          case c4 => rw [Hlk.out]; omega
          case c5 => simp; omega
          rintro v1 w1 ho1 hb1 - - -
          have hs := AccW.step (by rw [← Hlb.out]; exact hja) (by rw [← Hd.out]; exact ho1) ((hbm.alloc hbmz _).trans hb1)
          have Hs := Lib.hid hs
          clear hs ho1
          go_wp2
          go_roundw
          case rel => exact ⟨j + 1, by omega, by go_num, Hs.out⟩
          case measure => simp [intOf]; omega
        · have hjl : j = lb := by omega
          subst hjl
          have hfull : qs.take j = qs := List.take_of_length_le (by rw [Hlb.out]; exact Nat.le_refl _)
          have ho := HP.out
          rw [hfull] at ho
          have hrw := ho.rw' Hqr.out.lt
          have Hrw := Lib.hid hrw
          have HB3 := Lib.hid (hqb.trans (hbm.mono hqz))
          clear hfull ho hrw
          go_wp2
          go_loop [11] (fun u => ∃ k : Nat, k ≤ j ∧ RW wr u (qs.take k) ∧ wv (qs.take k) = wv qs) (fun u => sLen u)
          case atStart =>
            refine ⟨j, Nat.le_refl _, ?_, ?_⟩ <;> rw [List.take_of_length_le (by rw [Hlb.out]; exact Nat.le_refl _)]
            exact Hrw.out
          case round =>
            obtain ⟨k, hk, hu, hv⟩ := hrel
            have hSu := hu.isS
            have hLu : sLen u11 = k := by have := hu.len; simp at this; have := Hlb.out; omega
            have hCu := hSu.le
            have hCu' : k ≤ sCap u11 := by omega
            have Hu := Lib.hid hu
            have Hw := Lib.hid hv
            clear hCu hu hv
            by_cases hk0 : k = 0
            · subst hk0
              have HF := Lib.hid (trim_wds Hqr.out.lt Hu.out (Nat.zero_le _) Hw.out Hqv.out (.inl rfl))
              go_wp2
              go_ret2
              exact ⟨_, rfl, _, rfl, HF.out, HB3.out⟩
            · have hk1 : k - 1 < qs.length := by have := Hlb.out; omega
              have c := Hu.out.cell (k - 1) (by simp; omega)
              rw [show (qs.take k).getD (k - 1) 0 = qs.getD (k - 1) 0 by simp [List.getD_eq_getElem?_getD, show k - 1 < k by omega]] at c
              obtain ⟨d, hd⟩ : ∃ d, d = qs.getD (k - 1) 0 := ⟨_, rfl⟩
              rw [← hd] at c
              have Hd := Lib.hid hd
              have htk : qs.take k = qs.take (k - 1) ++ [d] := by
                conv => lhs; rw [show k = (k - 1) + 1 by omega]
                rw [List.take_succ_eq_append_getElem hk1, hd, List.getD_eq_getElem?_getD, List.getElem?_eq_getElem hk1]; rfl
              have Htk := Lib.hid htk
              have r' := Hu.out.take (n := k - 1) (by simp; omega)
              rw [List.take_take, show min (k - 1) k = k - 1 by omega] at r'
              have Hr' := Lib.hid r'
              clear hd r' htk
              by_cases hz : d = 0
              · have hz' : ((d : Int) == 0) = true := by rw [beq_iff_eq]; omega
                go_wp2
                go_round
                case rel =>
                  refine ⟨k - 1, by omega, Hr'.out, ?_⟩
                  rw [← Hw.out, Htk.out, wv_snoc, hz]; simp
                case measure => rw [subS_len hSu]; omega
              · have hz' : ((d : Int) == 0) = false := by rw [beq_eq_false_iff_ne]; omega
                have HF := Lib.hid (trim_wds Hqr.out.lt Hu.out (by rw [← Hlb.out]; exact hk) Hw.out Hqv.out (.inr (by rw [← Hd.out]; exact hz)))
                go_wp2
                go_ret2
                exact ⟨_, rfl, _, rfl, HF.out, HB3.out⟩
end Go.Proofs.Ytlgnaioodnhkjaa

/-
The statement on the division by a word. No condition.
-/
namespace Go.Proofs.Ytlgnaioodnhkjaa
open Go.RowKit

theorem word_row {w : World} {n : Nat} (hn : n < 18446744073709551616) : RW (w.alloc (.cells #[.int .u64 (n : Int)] 23)) (.slice (some ⟨w.heap.size, 0, none⟩) 1 1) [n] := by
  have h : (w.alloc (.cells #[.int .u64 (n : Int)] 23)).heap[w.heap.size]? = some (.cells #[.int .u64 (n : Int)] 23 (0, 0)) := box_row (Below.refl _ _)
  have hc := (row_at (i := 0) h rfl).1
  refine ⟨⟨⟨fun _ => rfl, Nat.le_refl _⟩, rfl, fun i hi => ?_⟩, fun d hd => ?_⟩
  · rw [ints_length] at hi
    obtain rfl : i = 0 := by simp at hi; omega
    exact hc
  · rw [List.mem_singleton.1 hd]; exact hn
theorem one_wv (y : Nat) : wv [y] = y := by simp [wv]
set_option maxRecDepth 100000 in
set_option maxHeartbeats 3200000 in
theorem lawDivWord (v : Value) (ws : List Nat) (y : Int) (w : World) (hv : RW w v ws) (hy0 : 0 ≤ y) (hy1 : y ≤ 18446744073709551615) :
    Calls Try.prog 10 #[v, .int .u64 y] w fun e w' => e = .returned (.bool true) ∧ Below w.heap.size w w' := by
  obtain ⟨n, rfl⟩ := Int.eq_ofNat_of_zero_le hy0
  have hn : n < 18446744073709551616 := by omega
  clear hy0 hy1
  have hS := hv.isS
  have hL := hv.len
  have hb0 := Below.refl w.heap.size w
  obtain ⟨la, hla⟩ : ∃ la, la = ws.length := ⟨_, rfl⟩
  rw [← hla] at hL
  have Hla := Lib.hid hla
  have HV := Lib.hid hv
  clear hla hv
  go_enter Try.func10, Try.ntmps10
  by_cases hbig : 2147483647 < la
  · have t0 : decide (2147483647 < la) = true := decide_eq_true hbig
    go_wp2
    go_ret
    exact ⟨rfl, hb0⟩
  have t0 : decide (2147483647 < la) = false := decide_eq_false hbig
  by_cases hn0 : n = 0
  · have t1 : ((n : Int) == 0) = true := by rw [beq_iff_eq]; omega
    go_wp2
    go_ret
    exact ⟨rfl, hb0⟩
  have t1 : ((n : Int) == 0) = false := by rw [beq_eq_false_iff_ne]; omega
  go_wp2_with fail
  refine (long_any v ws 20 w HV.out).mono ?_
  rintro _ _ ⟨rfl, rfl⟩
  rw [← Hla.out]
  by_cases hlong : 20 < la
  · have t2 : decide (20 < la) = true := decide_eq_true hlong
    rw [t2]
    go_wp2
    go_ret
    exact ⟨rfl, hb0⟩
  have t2 : decide (20 < la) = false := decide_eq_false hlong
  rw [t2]
  obtain ⟨R, hR⟩ : ∃ R, R = wv ws % n := ⟨_, rfl⟩
  have HI : Hid (Calls Try.prog 31 #[v, .int .u64 n] w fun e w' => ∃ v, e = .returned v ∧ DWPost (wv ws / n) R w.heap.size w v w') := Lib.hid (by
    rw [hR]; exact impDivWord v ws n w HV.out (by omega) hn (by rw [← Hla.out]; omega))
  have HR := Lib.hid hR
  have hRn : R < 18446744073709551616 := by rw [hR]; exact Nat.lt_trans (Nat.mod_lt _ (by omega)) hn
  clear hR
  go_wp2_with fail
  refine HI.out.mono ?_
  rintro _ w1 ⟨_, rfl, q, rfl, hq, hb1⟩
  have hSq := hq.isS
  have HQ := Lib.hid hq
  have HV1 := Lib.hid (HV.out.below hb1)
  have hX : nl (wv ws) ≤ 80 := by have h1 := nl_wv HV.out.lt; rw [← Hla.out] at h1; omega
  have hY : nl n ≤ 4 := nl_le4 hn
  have hXq : nl (wv ws / n) ≤ 80 := Nat.le_trans (nl_mono (Nat.div_le_self _ _)) hX
  have hXr : nl R ≤ 4 := nl_le4 hRn
  clear hq HI
  go_wp2_with fail
  refine (spOf v ws w1 HV1.out (by rw [← Hla.out]; omega)).mono ?_
  rintro _ w2 ⟨a, rfl, ha, hb2⟩
  have hSa := ha.isS
  have HA := Lib.hid ha
  have hbb2 := hb1.trans (hb2.mono hb1.size)
  have HO := Lib.hid (show Calls Try.prog 33 #[.slice (some ⟨w2.heap.size, 0, none⟩) 1 1] (w2.alloc (.cells #[.int .u64 (n : Int)] 23)) fun e' w' => ∃ r, e' = .returned r ∧ NatV w' r n ∧ Below w2.heap.size w2 w' from by
    refine (spOf (.slice (some ⟨w2.heap.size, 0, none⟩) 1 1) [n] _ (word_row hn) (by simp)).mono ?_
    rintro _ w' ⟨r, rfl, h1, h2⟩
    rw [one_wv] at h1
    exact ⟨r, rfl, h1, ((Below.refl _ _).alloc (Nat.le_refl _) _).trans (h2.mono (by simp))⟩)
  clear ha
  go_wp2_with fail
  refine HO.out.mono ?_
  rintro _ w3 ⟨b, rfl, hb, hb3⟩
  have hSb := hb.isS
  have HB := Lib.hid hb
  have HA3 := Lib.hid (HA.out.below hb3)
  clear hb HO
  go_wp2_with fail
  refine (spDivMod a b (wv ws) n w3 HA3.out HB.out (by omega) (by omega) (by omega)).mono ?_
  rintro _ w4 ⟨_, rfl, dq, dr, rfl, hdq, hdr, hb4⟩
  have hSdq := hdq.isS
  have hSdr := hdr.isS
  have hb24 := bthen hb3 hb4
  have hb14 := bthen hb2 hb24
  have HQ4 := Lib.hid (HQ.out.below hb14)
  have HDQ := Lib.hid hdq
  have HDR := Lib.hid hdr
  have hw4 := hb1.trans (hb14.mono hb1.size)
  clear hdq hdr
  go_wp2_with fail
  refine (spHasWords q dq _ _ w4 HQ4.out HDQ.out (by rw [wds_length]; have := nw_mono (Nat.div_le_self (wv ws) n); unfold nw at this ⊢; omega) (by omega)).mono ?_
  rintro _ w5 ⟨rfl, hb5⟩
  rw [decide_eq_true rfl]
  have HDR5 := Lib.hid (HDR.out.below hb5)
  have hw5 := hw4.trans (hb5.mono hw4.size)
  have HO := Lib.hid (show Calls Try.prog 33 #[.slice (some ⟨w5.heap.size, 0, none⟩) 1 1] (w5.alloc (.cells #[.int .u64 (R : Int)] 23)) fun e' w' => ∃ r, e' = .returned r ∧ NatV w' r R ∧ Below w5.heap.size w5 w' from by
    refine (spOf (.slice (some ⟨w5.heap.size, 0, none⟩) 1 1) [R] _ (word_row hRn) (by simp)).mono ?_
    rintro _ w' ⟨r, rfl, h1, h2⟩
    rw [one_wv] at h1
    exact ⟨r, rfl, h1, ((Below.refl _ _).alloc (Nat.le_refl _) _).trans (h2.mono (by simp))⟩)
  go_wp2_with fail
  refine HO.out.mono ?_
  rintro _ w6 ⟨c, rfl, hc, hb6⟩
  have hSc := hc.isS
  have HC := Lib.hid hc
  have hw6 := hw5.trans (hb6.mono hw5.size)
  have HDR6 : Hid (NatV w6 dr R) := Lib.hid (by rw [HR.out]; exact HDR5.out.below hb6)
  clear hc HO
  go_wp2_with fail
  refine (spCmp c dr R R w6 HC.out HDR6.out (by omega) (by omega)).mono ?_
  rintro _ w7 ⟨rfl, hb7⟩
  rw [show cmpN R R = 0 by simp [cmpN]]
  have hw7 := hw6.trans (hb7.mono hw6.size)
  go_wp2
  go_ret
  exact ⟨rfl, hw7⟩
end Go.Proofs.Ytlgnaioodnhkjaa
