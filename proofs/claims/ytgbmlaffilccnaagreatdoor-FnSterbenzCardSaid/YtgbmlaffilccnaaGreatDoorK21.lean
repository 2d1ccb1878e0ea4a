/-
Texts of this proof, joined: KfA StE VvD VvE. No condition.
-/
import Derived.Test.YtgbmlaffilccnaaGreatDoorK05
import Derived.Test.YtgbmlaffilccnaaGreatDoorK06
import Derived.Test.YtgbmlaffilccnaaGreatDoorK18
import Derived.Test.YtgbmlaffilccnaaGreatDoorK19
import Derived.Test.YtgbmlaffilccnaaGreatDoorK20
import Derived.IntWalk
/-
Floats as bytes: GobEncode. No condition.
-/
namespace Go.Proofs.YtgbmlaffilccnaaGreatDoor
open Go.RowKit

/-- The byte of mode, accuracy (exact), form and sign. -/
def kfH (m f : Nat) (neg : Bool) : Nat := m * 32 + 8 + 2 * f + (if neg then 1 else 0)
/-- The bytes that are kept. -/
def keptF (m f : Nat) (neg : Bool) (p eu L N : Nat) : List Nat := 1 :: kfH m f neg :: (bbs 4 p ++ (if f = 1 then bbs 4 eu ++ bbs (8 * L) N else []))
theorem kfH_lt {m f : Nat} {neg : Bool} (hm : m ≤ 5) (hf : f ≤ 1) : kfH m f neg < 256 := by unfold kfH; split <;> omega
set_option maxRecDepth 100000 in
set_option maxHeartbeats 800000 in
theorem put32_gen (v : Value) (os : List Value) (n B : Nat) (w : World) (ho : Own w B 5 v os) (h4 : 4 ≤ os.length) (hn : n < 4294967296) :
    Calls Tryz.prog 40 #[v, .int .u32 (n : Int)] w fun e w' => e = .returned (.tuple #[]) ∧ Own w' B 5 v (cellsB (bbs 4 n) ++ os.drop 4) ∧ Below B w w' ∧ FrB (sBlk v) (sOff v) (sOff v + 4) w w' := by
  have hS := ho.isS
  have hL : 4 ≤ sLen v := by rw [ho.len]; exact h4
  have hCv := hS.le
  have hc : 0 < sCap v := by omega
  obtain ⟨o0, o1, o2, o3, os', rfl⟩ : ∃ a b c d os', os = a :: b :: c :: d :: os' := by
    match os, h4 with
    | a :: b :: c :: d :: os', _ => exact ⟨a, b, c, d, os', rfl⟩
  have c0 := ho.cell (i := 0) (u := o0) rfl
  have c1 := ho.cell (i := 1) (u := o1) rfl
  have c2 := ho.cell (i := 2) (u := o2) rfl
  have c3 := ho.cell (i := 3) (u := o3) rfl
  rw [Nat.add_zero] at c0
  have f0 := ho.frozen hc (sOff v)
  have f1 := ho.frozen hc (sOff v + 1)
  have f2 := ho.frozen hc (sOff v + 2)
  have f3 := ho.frozen hc (sOff v + 3)
  obtain ⟨a3, h3⟩ : ∃ a, a = byt n 3 := ⟨_, rfl⟩
  obtain ⟨a2, h2⟩ : ∃ a, a = byt n 2 := ⟨_, rfl⟩
  obtain ⟨a1, h1⟩ : ∃ a, a = byt n 1 := ⟨_, rfl⟩
  obtain ⟨a0, h0⟩ : ∃ a, a = byt n 0 := ⟨_, rfl⟩
  have e3 : (n : Int) / 16777216 % 256 = (a3 : Int) := by rw [h3]; unfold byt; simp only [Nat.reducePow]; omega
  have e3' : (n : Int) / 16777216 = (a3 : Int) := by omega
  have e2 : (n : Int) / 65536 % 256 = (a2 : Int) := by rw [h2]; unfold byt; simp only [Nat.reducePow]; omega
  have e1 : (n : Int) / 256 % 256 = (a1 : Int) := by rw [h1]; unfold byt; simp only [Nat.reducePow]; omega
  have e0 : (n : Int) % 256 = (a0 : Int) := by rw [h0]; unfold byt; simp only [Nat.reducePow]; omega
  have Q : Hid (Own ((((w.setCell ⟨sBlk v, sOff v, none⟩ (.int .u8 (a3 : Int))).setCell ⟨sBlk v, sOff v + 1, none⟩ (.int .u8 (a2 : Int))).setCell ⟨sBlk v, sOff v + 2, none⟩ (.int .u8 (a1 : Int))).setCell ⟨sBlk v, sOff v + 3, none⟩ (.int .u8 (a0 : Int))) B 5 v (cellsB (bbs 4 n) ++ os') ∧
      Below B w ((((w.setCell ⟨sBlk v, sOff v, none⟩ (.int .u8 (a3 : Int))).setCell ⟨sBlk v, sOff v + 1, none⟩ (.int .u8 (a2 : Int))).setCell ⟨sBlk v, sOff v + 2, none⟩ (.int .u8 (a1 : Int))).setCell ⟨sBlk v, sOff v + 3, none⟩ (.int .u8 (a0 : Int))) ∧
      FrB (sBlk v) (sOff v) (sOff v + 4) w ((((w.setCell ⟨sBlk v, sOff v, none⟩ (.int .u8 (a3 : Int))).setCell ⟨sBlk v, sOff v + 1, none⟩ (.int .u8 (a2 : Int))).setCell ⟨sBlk v, sOff v + 2, none⟩ (.int .u8 (a1 : Int))).setCell ⟨sBlk v, sOff v + 3, none⟩ (.int .u8 (a0 : Int)))) := Lib.hid (by
    have hB := (ho.lt hc).1
    refine ⟨?_, bset (bset (bset (bset (Below.refl _ _) hB) hB) hB) hB, ((((FrB.refl _ _ _ _).set (by omega) (by omega) _).set (by omega) (by omega) _).set (by omega) (by omega) _).set (by omega) (by omega) _⟩
    have := (((ho.set (i := 0) (by simp) (.int .u8 (a3 : Int))).set (i := 1) (by simp) (.int .u8 (a2 : Int))).set (i := 2) (by simp) (.int .u8 (a1 : Int))).set (i := 3) (by simp) (.int .u8 (a0 : Int))
    rw [Nat.add_zero] at this
    have el : ((((o0 :: o1 :: o2 :: o3 :: os').set 0 (.int .u8 (a3 : Int))).set 1 (.int .u8 (a2 : Int))).set 2 (.int .u8 (a1 : Int))).set 3 (.int .u8 (a0 : Int)) = cellsB (bbs 4 n) ++ os' := by
      rw [h0, h1, h2, h3]; rfl
    rw [el] at this
    exact this)
  clear ho h0 h1 h2 h3 h4
  go_enter Tryz.func40, Tryz.ntmps40
  go_wp2
  go_end0
  exact ⟨rfl, Q.out⟩
/-- A part of the buffer from l on, and what is written there. -/
theorem kf_sub {w : World} {B : Nat} {v0 : Value} {A R : List Nat} {l T : Nat} (h : Own w B 5 v0 (cellsB (A ++ R))) (hl : A.length = l) (hT : A.length + R.length = T) : Own w B 5 (subS v0 l T) (cellsB R) := by
  have := h.sub (l := l) (n := T) (by omega) (by rw [cellsB_length, List.length_append]; omega)
  rw [cellsB_take, cellsB_drop, List.take_of_length_le (by rw [List.length_append]; omega), List.drop_left' hl] at this
  exact this
theorem kf_step {w w' : World} {B : Nat} {v0 : Value} {A R ys : List Nat} {l T n : Nat} (h : Own w B 5 v0 (cellsB (A ++ R))) (hl : A.length = l) (hT : A.length + R.length = T) (k : Own w' B 5 (subS v0 l T) (cellsB ys)) (hn : n ≤ T - l) (f : FrB (sBlk (subS v0 l T)) (sOff (subS v0 l T)) (sOff (subS v0 l T) + n) w w') : Own w' B 5 v0 (cellsB (A ++ ys)) := by
  have hS := h.isS
  have hlen : (cellsB (A ++ R)).length = T := by rw [cellsB_length, List.length_append]; omega
  have hv : sLen v0 = T := by rw [h.len, hlen]
  have hc := hS.le
  have hlT : l ≤ T := by omega
  have hy : (cellsB ys).length = T - l := by rw [← k.len, subS_len hS]
  have hf := FrB.sub hS hlT (by omega) (f.mono (Nat.le_refl _) (show sOff (subS v0 l T) + n ≤ sOff (subS v0 l T) + (T - l) by omega))
  have := Own.patch h hlT (by omega) hy k hf
  rw [List.drop_eq_nil_of_le (by omega), List.append_nil, cellsB_take, List.take_left' hl, cellsB_append] at this
  exact this
theorem kf_l1 (K H : Nat) : ((bbs (K + 10) 0).set 0 1).set 1 H = [1, H] ++ List.replicate (K + 8) 0 := by rw [bbs_zero]; rfl
theorem kf_l0 (H : Nat) : ((bbs 6 0).set 0 1).set 1 H = [1, H] ++ List.replicate 4 0 := by rw [bbs_zero]; rfl
theorem kf_z (K : Nat) : (cellsB (List.replicate (K + 4) 0)).drop 4 = cellsB (List.replicate K 0) := by rw [cellsB_drop, List.drop_replicate, Nat.add_sub_cancel]
theorem kf_and7 {m : Nat} (h : m ≤ 5) : bits .and .u8 (m : Int) 7 = (m : Int) := by
  rcases (by omega : m = 0 ∨ m = 1 ∨ m = 2 ∨ m = 3 ∨ m = 4 ∨ m = 5) with rfl | rfl | rfl | rfl | rfl | rfl <;> rfl
theorem kf_byte {m : Nat} (h : m ≤ 5) : bits .or .u8 (bits .or .u8 ((m : Int) * 32) (bits .and .i8 1 3 % 256 * 8 % 256)) (bits .and .u8 1 3 * 2 % 256) = ((kfH m 1 false : Nat) : Int) ∧ bits .or .u8 (bits .or .u8 ((m : Int) * 32) (bits .and .i8 1 3 % 256 * 8 % 256)) (bits .and .u8 0 3 * 2 % 256) = ((kfH m 0 false : Nat) : Int) := by
  rcases (by omega : m = 0 ∨ m = 1 ∨ m = 2 ∨ m = 3 ∨ m = 4 ∨ m = 5) with rfl | rfl | rfl | rfl | rfl | rfl <;> exact ⟨rfl, rfl⟩
theorem kf_or {m f : Nat} (h : m ≤ 5) (hf : f ≤ 1) : bits .or .u8 ((m : Int) * 32) 8 = (m : Int) * 32 + 8 ∧ bits .or .u8 ((m : Int) * 32 + 8) ((f : Int) * 2) = ((kfH m f false : Nat) : Int) ∧ bits .or .u8 ((kfH m f false : Nat) : Int) 1 = ((kfH m f true : Nat) : Int) := by
  rcases (by omega : m = 0 ∨ m = 1 ∨ m = 2 ∨ m = 3 ∨ m = 4 ∨ m = 5) with rfl | rfl | rfl | rfl | rfl | rfl <;> rcases (by omega : f = 0 ∨ f = 1) with rfl | rfl <;> exact ⟨rfl, rfl, rfl⟩
set_option maxRecDepth 100000 in
set_option maxHeartbeats 3200000 in
theorem gobF_one (b Bx p m eu : Nat) (e : Int) (neg : Bool) (v : Value) (ws : List Nat) (w : World) (h : FltR w b p m 0 1 neg v e) (ho : Own w Bx 116 v (cellsW ws)) (hd : ∀ d ∈ ws, d < 18446744073709551616) (hp : p ≤ 64000000) (hm : m ≤ 5) (hl : 64 * ws.length ≤ p + 63) (h0 : 0 < ws.length) (hl2 : ws.length ≤ 100000) (he : IntKind.u32.wrap e = (eu : Int)) (heb : eu < 4294967296) :
    Calls Tryz.prog 18 #[.pointer (some ⟨b, 0, none⟩)] w fun e' w' => ∃ r, e' = .returned (.tuple #[r, .nilIface]) ∧ RI .u8 w' r (ints (keptF m 1 neg p eu ws.length (wv ws))) ∧ Below w.heap.size w w' := by
  obtain ⟨c0, c1, c2, c3, c4, c5, c6⟩ := h.cells
  have c3' : w.cell? ⟨b, 3, none⟩ = some (.int .u8 1) := c3
  have hS := ho.isS
  have hX := ho.rw' hd
  obtain ⟨L, hL⟩ : ∃ L, L = ws.length := ⟨_, rfl⟩
  have hLv : sLen v = L := by rw [ho.len, cellsW_length, hL]
  obtain ⟨n0, hn0⟩ : ∃ n, n = (p + 63) / 64 := ⟨_, rfl⟩
  have e1 : IntKind.u32.wrap ((p : Int) + 63) = (p : Int) + 63 := by rw [IntKind.wrap_u32']; omega
  have e2 : ((p : Int) + 63) / 64 = (n0 : Int) := by omega
  have hLn : L ≤ n0 := by omega
  have hnb : n0 ≤ 1000001 := by omega
  have hvlt := (ho.lt (by have := hS.le; omega)).2
  have HF := Lib.hid h
  have HX := Lib.hid hX
  have HL := Lib.hid hL
  rw [← hL] at h0 hl2 hl
  rw [← hL]
  clear h ho hd hX hL hn0 c3
  go_enter Tryz.func18, Tryz.ntmps18
  go_upto_if 28 with fail
  go_cut [5] (fun x wx => x = .int .i64 (L : Int) ∧ w = wx)
  case first =>
    by_cases hlt : L < n0
    · have t1 : decide ((L : Int) < (n0 : Int)) = true := decide_eq_true (by omega)
      have t1' : decide (L < n0) = true := decide_eq_true hlt
      go_wp2_with fail
      go_meet
      exact ⟨rfl, rfl⟩
    · have t1 : decide ((L : Int) < (n0 : Int)) = false := decide_eq_false (by omega)
      have t1' : decide (L < n0) = false := decide_eq_false hlt
      have hn : n0 = L := by omega
      go_wp2_with fail
      go_meet
      exact ⟨by rw [hn], rfl⟩
  case rest =>
    obtain ⟨rfl, rfl⟩ := hcut
    obtain ⟨T, hT⟩ : ∃ T, T = 10 + 8 * L := ⟨_, rfl⟩
    have g1 : IntKind.i64.wrap ((L : Int) * 8) = (L : Int) * 8 := IntWalk.i64_in _ (by omega)
    have g2 : IntKind.i64.wrap (4 + (L : Int) * 8) = 4 + (L : Int) * 8 := IntWalk.i64_in _ (by omega)
    have g3 : IntKind.i64.wrap (6 + (4 + (L : Int) * 8)) = (T : Int) := by rw [IntWalk.i64_in _ (by omega)]; omega
    have g3' : 6 + (4 + (L : Int) * 8) = (T : Int) := by omega
    have hTb : T ≤ 10000000 := by omega
    have HT := Lib.hid hT
    clear hT
    go_wp2_with (at_make; refine wpList_make_O rfl _ _ _ rfl elemB .i64 .i64 _ _ rfl rfl w.heap.size ?c1 ?c2 ?c3 ?c4 ?c5 ?_)
    case c1 => omega
    case c2 => omega
    case c3 => omega
    case c4 => omega
    case c5 => exact Nat.le_refl _
    rintro v0 w1 hv0 ho hb1 hz1
    have ho : Own w1 w.heap.size 5 v0 (List.replicate T (.int .u8 0)) := by simpa using ho
    rw [cellsB_rep] at ho
    have hS0 := ho.isS
    have hL0 : sLen v0 = T := by rw [ho.len, cellsB_length, bbs_length]
    have hC0 := hS0.le
    have hT10 : 10 ≤ T := by have := HT.out; omega
    have hcap : 0 < sCap v0 := by omega
    have hB0 := (ho.lt hcap).1
    have cu : w1.cell? ⟨sBlk v0, sOff v0, none⟩ = some (.int .u8 ((byt 0 (T - 1 - 0) : Nat) : Int)) := ho.cell (i := 0) (bbs_cell (by omega))
    have fz := ho.frozen hcap (sOff v0)
    have hTl : 0 < T := by omega
    clear hv0 hz1
    go_upto_region 12 with fail
    obtain ⟨W2, hW2⟩ : ∃ W2, W2 = w1.setCell ⟨sBlk v0, sOff v0, none⟩ (.int .u8 1) := ⟨_, rfl⟩
    have hb2 : Below w.heap.size w W2 := by rw [hW2]; exact bset hb1 hB0
    have ho2 : Own W2 w.heap.size 5 v0 (cellsB ((bbs T 0).set 0 1)) := by
      have := ho.set (i := 0) (by rw [cellsB_length, bbs_length]; omega) (.int .u8 ((1 : Nat) : Int))
      rw [cellsB_set] at this
      rw [hW2]; exact this
    rw [← hW2]
    have HF2 := HF.out.below hb2
    obtain ⟨d0, d1, d2, d3, d4, d5, d6⟩ := HF2.cells
    have d3' : W2.cell? ⟨b, 3, none⟩ = some (.int .u8 1) := d3
    have d2' : W2.cell? ⟨b, 2, none⟩ = some (.int .i8 0) := d2
    clear hW2 cu fz ho hb1 c0 c1 c2 c3' c4 c5 c6 d3 d2
    have a7 := kf_and7 hm
    have a8 := (kf_byte hm).1
    go_quiet (fail)
    obtain ⟨W3, hW3⟩ : ∃ W3, W3 = W2.drewN nq := ⟨_, rfl⟩
    have hb3 : Below w.heap.size w W3 := by rw [hW3]; exact undrewN' hb2
    have ho3 : Own W3 w.heap.size 5 v0 (cellsB ((bbs T 0).set 0 1)) := by rw [hW3]; exact ho2.drewN nq
    rw [← hW3]
    have HF3 := HF.out.below hb3
    clear hW3 HF2 ho2 hb2 d0 d1 d4 d5 d6 d3' d2' a7 a8
    obtain ⟨d0, d1, d2, d3, d4, d5, d6⟩ := HF3.cells
    have hor := (kf_or hm (f := 1) (by decide)).2.2
    obtain ⟨H, hH⟩ : ∃ H, H = kfH m 1 neg := ⟨_, rfl⟩
    obtain ⟨H0, hH0⟩ : ∃ H0, H0 = kfH m 1 false := ⟨_, rfl⟩
    have hH8 : H < 256 := by rw [hH]; exact kfH_lt hm (by decide)
    rw [← hH0] at hor ⊢
    go_upto_if 68 with fail
    go_cut [7] (fun x wx => x = .int .u8 (H : Int) ∧ W3 = wx)
    case first =>
      cases neg with
      | true =>
        go_wp2_with fail
        go_meet
        exact ⟨by rw [← hH0, hor, hH], rfl⟩
      | false =>
        go_wp2_with fail
        go_meet
        exact ⟨by rw [hH0, hH], rfl⟩
    case rest =>
    obtain ⟨rfl, rfl⟩ := hcut
    have HHE := Lib.hid hH
    clear hor hH0 hH
    have cu : W3.cell? ⟨sBlk v0, sOff v0 + 1, none⟩ = some (.int .u8 ((((bbs T 0).set 0 1).getD 1 0 : Nat) : Int)) := ho3.cell (i := 1) (cellsB_at (by rw [List.length_set, bbs_length]; omega))
    have fz := ho3.frozen hcap (sOff v0 + 1)
    have hTl1 : 1 < T := by omega
    go_upto_region 16 with fail
    obtain ⟨W4, hW4⟩ : ∃ W4, W4 = W3.setCell ⟨sBlk v0, sOff v0 + 1, none⟩ (.int .u8 (H : Int)) := ⟨_, rfl⟩
    have hb4 : Below w.heap.size w W4 := by rw [hW4]; exact bset hb3 hB0
    have ho4 : Own W4 w.heap.size 5 v0 (cellsB (((bbs T 0).set 0 1).set 1 H)) := by
      have := ho3.set (i := 1) (by rw [cellsB_length, List.length_set, bbs_length]; omega) (.int .u8 (H : Int))
      rw [cellsB_set] at this
      rw [hW4]; exact this
    rw [← hW4]
    have HF4 := HF.out.below hb4
    clear hW4 cu fz ho3 hb3 d0 d1 d2 d3 d4 d5 d6 HF3
    obtain ⟨d0, d1, d2, d3, d4, d5, d6⟩ := HF4.cells
    obtain ⟨K, hK⟩ : ∃ K, K = 8 * L := ⟨_, rfl⟩
    have hTK : T = K + 10 := by have := HT.out; omega
    rw [hTK, kf_l1] at ho4
    have HTK := Lib.hid hTK
    have HK := Lib.hid hK
    have hS2 : IsS (subS v0 2 T) := subS_isS hS0 (by omega) (by omega)
    have hs4 := kf_sub ho4 rfl (T := T) (by rw [List.length_replicate]; show 2 + (K + 8) = T; omega)
    have HPUT := Lib.hid (fun k => put32_gen (subS v0 2 T) _ p w.heap.size (W4.drewN k) (hs4.drewN k) (by rw [cellsB_length, List.length_replicate]; omega) (by omega))
    have HO4 := Lib.hid ho4
    have HB4 := Lib.hid hb4
    clear ho4 hb4 hs4 hK hTK HF4
    (refine wp_region_hoist 6 (by kernel_rfl) (by kernel_rfl) ⟨fun _ _ _ h => (by first | exact (hQp _ _ _ h).elim | cases h.2.1 | (obtain ⟨_, h3, _⟩ := h.2; cases h3)), fun _ _ h => (by first | exact (hQo _ _ h).elim | cases h.1 | (obtain ⟨_, h3, _⟩ := h; cases h3))⟩ ?_; simp only [List.take_succ_cons, List.take_zero, List.drop_succ_cons, List.drop_zero]; (repeat (go_big_quiet_step (fail))); refine wpQuiet_nil ?_; rintro _ ⟨nq, rfl⟩)
    go_wp2_with fail
    refine (HPUT.out nq).mono ?_
    rintro _ W5 ⟨rfl, hs5, hb5, hf5⟩
    rw [show K + 8 = (K + 4) + 4 from rfl, kf_z, cellsB_append] at hs5
    have ho5 := kf_step HO4.out (l := 2) rfl (T := T) (by rw [List.length_replicate]; show 2 + (K + 8) = T; have := HTK.out; omega) hs5 (n := 4) (by omega) hf5.undrewN
    have hb5 : Below w.heap.size w W5 := HB4.out.trans (undrewN hb5)
    have HF5 := HF.out.below hb5
    clear hs5 hf5 HPUT HO4 HB4 d0 d1 d2 d3 d4 d5 d6
    obtain ⟨d0, d1, d2, d3, d4, d5, d6⟩ := HF5.cells
    have d3' : W5.cell? ⟨b, 3, none⟩ = some (.int .u8 1) := d3
    have ho5' : Own W5 w.heap.size 5 v0 (cellsB ((1 :: H :: bbs 4 p) ++ List.replicate (K + 4) 0)) := ho5
    have hs6 := kf_sub ho5' (l := 6) (by rw [List.length_cons, List.length_cons, bbs_length]) (T := T) (by rw [List.length_replicate, List.length_cons, List.length_cons, bbs_length]; have := HTK.out; omega)
    have hS6 : IsS (subS v0 6 T) := subS_isS hS0 (by omega) (by omega)
    have HPUT := Lib.hid (fun k => put32_gen (subS v0 6 T) _ eu w.heap.size (W5.drewN k) (hs6.drewN k) (by rw [cellsB_length, List.length_replicate]; omega) heb)
    have HO5 := Lib.hid ho5'
    have HB5 := Lib.hid hb5
    have ewu : (e : Int) % 4294967296 = (eu : Int) := by rw [← he, IntKind.wrap_u32']
    clear ho5 ho5' hb5 hs6 HF5 d3
    go_upto_region 18 with fail
    (refine wp_region_hoist 7 (by kernel_rfl) (by kernel_rfl) ⟨fun _ _ _ h => (by first | exact (hQp _ _ _ h).elim | cases h.2.1 | (obtain ⟨_, h3, _⟩ := h.2; cases h3)), fun _ _ h => (by first | exact (hQo _ _ h).elim | cases h.1 | (obtain ⟨_, h3, _⟩ := h; cases h3))⟩ ?_; simp only [List.take_succ_cons, List.take_zero, List.drop_succ_cons, List.drop_zero]; (repeat (go_big_quiet_step (fail))); refine wpQuiet_nil ?_; rintro _ ⟨nq, rfl⟩)
    go_wp2_with fail
    refine (HPUT.out nq).mono ?_
    rintro _ W6 ⟨rfl, hs6, hb6, hf6⟩
    rw [kf_z, cellsB_append] at hs6
    have hTK2 := HTK.out
    have ho6 := kf_step HO5.out (l := 6) (by rw [List.length_cons, List.length_cons, bbs_length]) (T := T) (by rw [List.length_replicate, List.length_cons, List.length_cons, bbs_length]; omega) hs6 (n := 4) (by omega) hf6.undrewN
    have hb6' : Below w.heap.size w W6 := HB5.out.trans (undrewN hb6)
    have HF6 := HF.out.below hb6'
    have ho6' : Own W6 w.heap.size 5 v0 (cellsB ((1 :: H :: (bbs 4 p ++ bbs 4 eu)) ++ List.replicate K 0)) := by
      have e9 : (1 :: H :: bbs 4 p) ++ (bbs 4 eu ++ List.replicate K 0) = (1 :: H :: (bbs 4 p ++ bbs 4 eu)) ++ List.replicate K 0 := by simp
      rw [← e9]; exact ho6
    have hA10 : (1 :: H :: (bbs 4 p ++ bbs 4 eu)).length = 10 := by rw [List.length_cons, List.length_cons, List.length_append, bbs_length, bbs_length]
    have hs10 := kf_sub ho6' hA10 (T := T) (by rw [hA10, List.length_replicate]; omega)
    have hS10 : IsS (subS v0 10 T) := subS_isS hS0 (by omega) (by omega)
    have hSv : IsS (subS v 0 L) := subS_isS hS (by omega) (by have := hS.le; omega)
    have hXv : RW W6 (subS v 0 L) ws := by
      have h1 := HX.out.below hb6'
      refine ⟨⟨hSv, ?_, fun i hi => ?_⟩, h1.lt⟩
      · rw [subS_len hS, ints_length, ← HL.out]; omega
      · rw [subS_blk hS, subS_off0 hS]; exact h1.ri.cell i hi
    have hvb : sBlk (subS v 0 L) ≠ sBlk (subS v0 10 T) := by rw [subS_blk hS, subS_blk hS0]; omega
    have HBY := Lib.hid (fun k => bytes_any (subS v 0 L) (subS v0 10 T) ws w.heap.size K (W6.drewN k) (hXv.drewN k) (by rw [bbs_zero]; exact hs10.drewN k) (by have := HK.out; have := HL.out; omega) (by omega) (fun _ => hvb))
    obtain ⟨d0, d1, d2, d3, d4, d5, d6⟩ := HF6.cells
    have HO6 := Lib.hid ho6'
    have HB6 := Lib.hid hb6'
    have HA := Lib.hid hA10
    clear hs6 hb6 hf6 ho6 ho6' hb6' HF6 hs10 hXv hvb hA10 hTK2 HPUT HO5 HB5 hb5
    go_upto_region 19 with fail
    (refine wp_region_hoist 14 (by kernel_rfl) (by kernel_rfl) ⟨fun _ _ _ h => (by first | exact (hQp _ _ _ h).elim | cases h.2.1 | (obtain ⟨_, h3, _⟩ := h.2; cases h3)), fun _ _ h => (by first | exact (hQo _ _ h).elim | cases h.1 | (obtain ⟨_, h3, _⟩ := h; cases h3))⟩ ?_; simp only [List.take_succ_cons, List.take_zero, List.drop_succ_cons, List.drop_zero]; (repeat (go_big_quiet_step (fail))); refine wpQuiet_nil ?_; rintro _ ⟨nq, rfl⟩)
    go_wp2_with fail
    refine (HBY.out nq).mono ?_
    rintro _ W7 ⟨c, rfl, -, hs7, hb7, hf7⟩
    have hTK2 := HTK.out
    have ho7 := kf_step HO6.out HA.out (T := T) (by rw [HA.out, List.length_replicate]; omega) hs7 (n := K) (by omega) hf7.undrewN
    have Q : Hid (RI .u8 W7 v0 (ints (keptF m 1 neg p eu L (wv ws))) ∧ Below w.heap.size w W7) := Lib.hid ⟨by
      have h0 := ho7
      rw [cellsB_eq] at h0
      have h1 := h0.rd
      unfold keptF
      rw [if_pos rfl, ← HHE.out, ← HK.out]
      simpa using h1, HB6.out.trans (undrewN hb7)⟩
    clear hs7 hb7 hf7 ho7
    go_wp2
    go_ret2
    exact ⟨_, rfl, Q.out⟩
set_option maxRecDepth 100000 in
set_option maxHeartbeats 3200000 in
theorem gobF_zero (b p m : Nat) (e : Int) (neg : Bool) (v : Value) (w : World) (h : FltR w b p m 0 0 neg v e) (hp : p ≤ 64000000) (hm : m ≤ 5) :
    Calls Tryz.prog 18 #[.pointer (some ⟨b, 0, none⟩)] w fun e' w' => ∃ r, e' = .returned (.tuple #[r, .nilIface]) ∧ RI .u8 w' r (ints (keptF m 0 neg p 0 0 0)) ∧ Below w.heap.size w w' := by
  obtain ⟨c0, c1, c2, c3, c4, c5, c6⟩ := h.cells
  have c3' : w.cell? ⟨b, 3, none⟩ = some (.int .u8 0) := c3
  have HF := Lib.hid h
  obtain ⟨T, hT⟩ : ∃ T, T = 6 := ⟨_, rfl⟩
  have HT := Lib.hid hT
  clear h c3
  go_enter Tryz.func18, Tryz.ntmps18
  go_wp2_with (at_make; refine wpList_make_O rfl _ _ _ rfl elemB .i64 .i64 _ _ rfl rfl w.heap.size ?c1 ?c2 ?c3 ?c4 ?c5 ?_)
  case c1 => omega
  case c2 => omega
  case c3 => omega
  case c4 => omega
  case c5 => exact Nat.le_refl _
  rintro v0 w1 hv0 ho hb1 hz1
  have ho : Own w1 w.heap.size 5 v0 (List.replicate T (.int .u8 0)) := by rw [HT.out]; simpa using ho
  rw [cellsB_rep] at ho
  have hS0 := ho.isS
  have hL0 : sLen v0 = T := by rw [ho.len, cellsB_length, bbs_length]
  have hC0 := hS0.le
  have hT10 : 6 ≤ T := by omega
  have hTb : T ≤ 10 := by omega
  clear hT
  have hcap : 0 < sCap v0 := by omega
  have hB0 := (ho.lt hcap).1
  have cu : w1.cell? ⟨sBlk v0, sOff v0, none⟩ = some (.int .u8 ((byt 0 (T - 1 - 0) : Nat) : Int)) := ho.cell (i := 0) (bbs_cell (by omega))
  have fz := ho.frozen hcap (sOff v0)
  have hTl : 0 < T := by omega
  clear hv0 hz1
  go_upto_region 12 with fail
  obtain ⟨W2, hW2⟩ : ∃ W2, W2 = w1.setCell ⟨sBlk v0, sOff v0, none⟩ (.int .u8 1) := ⟨_, rfl⟩
  have hb2 : Below w.heap.size w W2 := by rw [hW2]; exact bset hb1 hB0
  have ho2 : Own W2 w.heap.size 5 v0 (cellsB ((bbs T 0).set 0 1)) := by
    have := ho.set (i := 0) (by rw [cellsB_length, bbs_length]; omega) (.int .u8 ((1 : Nat) : Int))
    rw [cellsB_set] at this
    rw [hW2]; exact this
  rw [← hW2]
  have HF2 := HF.out.below hb2
  obtain ⟨d0, d1, d2, d3, d4, d5, d6⟩ := HF2.cells
  have d3' : W2.cell? ⟨b, 3, none⟩ = some (.int .u8 0) := d3
  have d2' : W2.cell? ⟨b, 2, none⟩ = some (.int .i8 0) := d2
  clear hW2 cu fz ho hb1 c0 c1 c2 c3' c4 c5 c6 d3 d2
  have a7 := kf_and7 hm
  have a8 := (kf_byte hm).2
  go_quiet (fail)
  obtain ⟨W3, hW3⟩ : ∃ W3, W3 = W2.drewN nq := ⟨_, rfl⟩
  have hb3 : Below w.heap.size w W3 := by rw [hW3]; exact undrewN' hb2
  have ho3 : Own W3 w.heap.size 5 v0 (cellsB ((bbs T 0).set 0 1)) := by rw [hW3]; exact ho2.drewN nq
  rw [← hW3]
  have HF3 := HF.out.below hb3
  clear hW3 HF2 ho2 hb2 d0 d1 d4 d5 d6 d3' d2' a7 a8
  obtain ⟨d0, d1, d2, d3, d4, d5, d6⟩ := HF3.cells
  have hor := (kf_or hm (f := 0) (by decide)).2.2
  obtain ⟨H, hH⟩ : ∃ H, H = kfH m 0 neg := ⟨_, rfl⟩
  obtain ⟨H0, hH0⟩ : ∃ H0, H0 = kfH m 0 false := ⟨_, rfl⟩
  have hH8 : H < 256 := by rw [hH]; exact kfH_lt hm (by decide)
  rw [← hH0] at hor ⊢
  go_upto_if 68 with fail
  go_cut [7] (fun x wx => x = .int .u8 (H : Int) ∧ W3 = wx)
  case first =>
    cases neg with
    | true =>
      go_wp2_with fail
      go_meet
      exact ⟨by rw [← hH0, hor, hH], rfl⟩
    | false =>
      go_wp2_with fail
      go_meet
      exact ⟨by rw [hH0, hH], rfl⟩
  case rest =>
  obtain ⟨rfl, rfl⟩ := hcut
  have HHE := Lib.hid hH
  clear hor hH0 hH
  have cu : W3.cell? ⟨sBlk v0, sOff v0 + 1, none⟩ = some (.int .u8 ((((bbs T 0).set 0 1).getD 1 0 : Nat) : Int)) := ho3.cell (i := 1) (cellsB_at (by rw [List.length_set, bbs_length]; omega))
  have fz := ho3.frozen hcap (sOff v0 + 1)
  have hTl1 : 1 < T := by omega
  go_upto_region 16 with fail
  obtain ⟨W4, hW4⟩ : ∃ W4, W4 = W3.setCell ⟨sBlk v0, sOff v0 + 1, none⟩ (.int .u8 (H : Int)) := ⟨_, rfl⟩
  have hb4 : Below w.heap.size w W4 := by rw [hW4]; exact bset hb3 hB0
  have ho4 : Own W4 w.heap.size 5 v0 (cellsB (((bbs T 0).set 0 1).set 1 H)) := by
    have := ho3.set (i := 1) (by rw [cellsB_length, List.length_set, bbs_length]; omega) (.int .u8 (H : Int))
    rw [cellsB_set] at this
    rw [hW4]; exact this
  rw [← hW4]
  have HF4 := HF.out.below hb4
  clear hW4 cu fz ho3 hb3 d0 d1 d2 d3 d4 d5 d6 HF3
  obtain ⟨d0, d1, d2, d3, d4, d5, d6⟩ := HF4.cells
  rw [HT.out, kf_l0] at ho4
  have hS2 : IsS (subS v0 2 T) := subS_isS hS0 (by omega) (by omega)
  have hs4 := kf_sub ho4 (l := 2) rfl (T := T) (by rw [HT.out]; rfl)
  have HPUT := Lib.hid (fun k => put32_gen (subS v0 2 T) _ p w.heap.size (W4.drewN k) (hs4.drewN k) (by rw [cellsB_length, List.length_replicate]; omega) (by omega))
  have HO4 := Lib.hid ho4
  have HB4 := Lib.hid hb4
  clear ho4 hb4 hs4 HF4
  (refine wp_region_hoist 6 (by kernel_rfl) (by kernel_rfl) ⟨fun _ _ _ h => (by first | exact (hQp _ _ _ h).elim | cases h.2.1 | (obtain ⟨_, h3, _⟩ := h.2; cases h3)), fun _ _ h => (by first | exact (hQo _ _ h).elim | cases h.1 | (obtain ⟨_, h3, _⟩ := h; cases h3))⟩ ?_; simp only [List.take_succ_cons, List.take_zero, List.drop_succ_cons, List.drop_zero]; (repeat (go_big_quiet_step (fail))); refine wpQuiet_nil ?_; rintro _ ⟨nq, rfl⟩)
  go_wp2_with fail
  refine (HPUT.out nq).mono ?_
  rintro _ W5 ⟨rfl, hs5, hb5, hf5⟩
  rw [show (4 : Nat) = 0 + 4 from rfl, kf_z, List.replicate_zero, cellsB_append, List.append_nil] at hs5
  have ho5 := kf_step HO4.out (l := 2) rfl (T := T) (by rw [HT.out]; rfl) hs5 (n := 4) (by omega) hf5.undrewN
  have hb5' : Below w.heap.size w W5 := HB4.out.trans (undrewN hb5)
  have HF5 := HF.out.below hb5'
  obtain ⟨e0, e1, e2, e3, e4, e5, e6⟩ := HF5.cells
  have e3' : W5.cell? ⟨b, 3, none⟩ = some (.int .u8 0) := e3
  have Q : Hid (RI .u8 W5 v0 (ints (keptF m 0 neg p 0 0 0)) ∧ Below w.heap.size w W5) := Lib.hid ⟨by
    have h0 := ho5
    rw [cellsB_eq] at h0
    have h1 := h0.rd
    unfold keptF
    rw [if_neg (by decide), ← HHE.out]
    simpa using h1, hb5'⟩
  clear hs5 hb5 hf5 ho5 hb5' HF5 HPUT HO4 HB4 d0 d1 d2 d3 d4 d5 d6 e3
  go_wp2
  go_ret2
  exact ⟨_, rfl, Q.out⟩
end Go.Proofs.YtgbmlaffilccnaaGreatDoor

/-
Floats: SetPrec, SetMantExp, MantExp, IsInt by values. No condition.
-/
namespace Go.Proofs.YtgbmlaffilccnaaGreatDoor
open Go.RowKit

set_option maxRecDepth 100000 in
theorem round_other (b B p m f : Nat) (a e : Int) (neg : Bool) (v : Value) (W : World) (hW : FltR W b p m a f neg v e) (hB : B ≤ b) (hf : f = 0 ∨ f = 2) :
    Calls Tryz.prog 74 #[.pointer (some ⟨b, 0, none⟩), .int .u64 0] W fun e' w' => e' = .returned (.tuple #[]) ∧ FltR w' b p m 0 f neg v e ∧ Below B W w' := by
  obtain ⟨c0, c1, c2, c3, c4, c5, c6⟩ := hW.cells
  obtain ⟨f0, f1, f2, f3, f4, f5, f6⟩ := hW.free
  have t2 : ((f : Int) != 1) = true := by rw [bne_iff_ne]; omega
  have R := Lib.hid (hW.s2 0)
  have BB := Lib.hid (bset (i := 2) (u := .int .i8 0) (Below.refl B W) hB)
  clear hW hf
  go_enter Tryz.func74, Tryz.ntmps74
  go_wp2
  refine bodyPost_ret (results_none rfl _ _ _) rfl ?_
  exact ⟨rfl, R.out, BB.out⟩
set_option maxRecDepth 100000 in
set_option maxHeartbeats 800000 in
theorem setPrec_val (b B p q m f : Nat) (a : Int) (neg : Bool) (M : Nat) (X : Int) (w : World) (h : FVal w B b p m a f neg M X) (hB : B ≤ b) (hf : f ≤ 2) (_hp0 : 0 < p) (_hp : p ≤ 64000000) (hq0 : 0 < q) (hq : q ≤ 64000000) (hm : m ≤ 5) (hX : f = 1 → -2140000000 ≤ X ∧ X + bl M ≤ 2140000000) :
    Calls Tryz.prog 42 #[.pointer (some ⟨b, 0, none⟩), .int .u64 q] w fun e' w' => e' = .returned (.pointer (some ⟨b, 0, none⟩)) ∧ FVal w' B b q m (stA f q m neg M) f neg (rQ q m neg 0 M) (X + rk q M) ∧ Below B w w' := by
  obtain ⟨v, e, h1, h2⟩ := h
  obtain ⟨c0, c1, c2, c3, c4, c5, c6⟩ := h1.cells
  obtain ⟨f0, f1, f2, f3, f4, f5, f6⟩ := h1.free
  have R1 := Lib.hid ((h1.s2 0).s0 q)
  have B1 := Lib.hid (bset (i := 0) (u := .int .u32 (q : Int)) (bset (i := 2) (u := .int .i8 0) (Below.refl B w) hB) hB)
  have t1 : ((q : Int) == 0) = false := by rw [beq_eq_false_iff_ne]; omega
  by_cases h3 : f = 1
  · subst h3
    obtain ⟨hM, ws, ho, hg, hd⟩ := h2 rfl
    have h0 := hd.symm.pos hM
    have hb := hd.bl h0
    rw [hg.bl] at hb
    have hx2 := hX rfl
    have he1 : -2147483648 ≤ e := by omega
    have he2 : e < 2147483647 := by omega
    obtain ⟨l1, l2⟩ := rnd_deq (p := q) (m := m) neg h0 hd
    have O1 := Lib.hid ((h1.s2 0).own (h1.own ho 2 (.int .i8 0)) 0 (.int .u32 (q : Int)))
    have HG := Lib.hid hg
    have HM := Lib.hid hM
    have HH : ∀ w', FVal w' B b q m (rA q m neg 0 (wv ws)) 1 neg (rQ q m neg 0 (wv ws)) (e - 64 * (ws.length : Int) + rk q (wv ws)) → FVal w' B b q m (stA 1 q m neg M) 1 neg (rQ q m neg 0 M) (X + rk q M) := fun w' hw => by
      obtain ⟨v', e', k1, k2⟩ := hw
      obtain ⟨n1, ws', n2, n3, n4⟩ := k2 rfl
      refine ⟨v', e', ?_, fun _ => ⟨l1.pos n1, ws', n2, n3, n4.trans l1⟩⟩
      unfold stA; rw [if_pos rfl, ← l2]; exact k1
    have HH := Lib.hid HH
    clear h1 h2 ho hg hd h0 hb hx2 hX l1 l2 hM
    by_cases hqp : q < p
    · have t2 : decide (q < p) = true := decide_eq_true hqp
      clear hqp
      go_enter Tryz.func42, Tryz.ntmps42
      go_wp2_with fail
      have hG := HG.out
      have hr := round_any b B q m 0 0 e neg v ws _ R1.out hB O1.out hG.2.2.1 hG.1 hG.2.2.2.1 hG.2.1 hq0 hq hm (by decide) (.inl rfl) he1 he2
      rw [show ((0 : Nat) : Int) = 0 from rfl] at hr
      refine hr.mono ?_
      rintro _ w8 ⟨rfl, hR⟩
      have F := Lib.hid (HH.out _ (hR.val (rQ_pos neg 0 hq0 (Nat.lt_of_lt_of_le (Nat.two_pow_pos _) hG.2.2.2.1))))
      obtain ⟨_, _, _, -, -, -, -, hb8⟩ := hR
      have HB8 := Lib.hid (B1.out.trans hb8)
      clear hr hG hb8
      go_wp2
      go_ret
      exact ⟨rfl, F.out, HB8.out⟩
    · have t2 : decide (q < p) = false := decide_eq_false hqp
      have F := Lib.hid (HH.out _ (fval_rnd R1.out O1.out (HG.out.wide (by omega)) hq0))
      clear hqp HH
      go_enter Tryz.func42, Tryz.ntmps42
      go_wp2
      go_ret
      exact ⟨rfl, F.out, B1.out⟩
  · have HF : Hid (∀ w', FltR w' b q m 0 f neg v e → FVal w' B b q m (stA f q m neg M) f neg (rQ q m neg 0 M) (X + rk q M)) := Lib.hid (fun w' hw => ⟨v, e, by unfold stA; rw [if_neg h3]; exact hw, fun hc => absurd hc h3⟩)
    have HR := Lib.hid (round_other b B q m f 0 e neg v _ R1.out hB (by omega))
    clear h1 h2 hX
    by_cases hqp : q < p
    · have t2 : decide (q < p) = true := decide_eq_true hqp
      clear hqp h3
      go_enter Tryz.func42, Tryz.ntmps42
      go_wp2_with fail
      refine HR.out.mono ?_
      rintro _ w8 ⟨rfl, hr, hb⟩
      have F := Lib.hid (HF.out _ hr)
      have HB8 := Lib.hid (B1.out.trans hb)
      clear hr hb
      go_wp2
      go_ret
      exact ⟨rfl, F.out, HB8.out⟩
    · have t2 : decide (q < p) = false := decide_eq_false hqp
      have F := Lib.hid (HF.out _ R1.out)
      clear hqp h3 HF HR
      go_enter Tryz.func42, Tryz.ntmps42
      go_wp2
      go_ret
      exact ⟨rfl, F.out, B1.out⟩
/-- What precision 0 leaves. -/
def zpF (f : Nat) : Nat := if f = 1 then 0 else f
set_option maxRecDepth 100000 in
set_option maxHeartbeats 800000 in
theorem setPrec_zero (b B p m f : Nat) (a e : Int) (neg : Bool) (v : Value) (w : World) (h : FltR w b p m a f neg v e) (hB : B ≤ b) (hf : f ≤ 2) :
    Calls Tryz.prog 42 #[.pointer (some ⟨b, 0, none⟩), .int .u64 0] w fun e' w' => e' = .returned (.pointer (some ⟨b, 0, none⟩)) ∧ (∃ a' : Int, (-1 ≤ a' ∧ a' ≤ 1) ∧ FltR w' b 0 m a' (zpF f) neg v e) ∧ Below B w w' := by
  obtain ⟨c0, c1, c2, c3, c4, c5, c6⟩ := h.cells
  obtain ⟨f0, f1, f2, f3, f4, f5, f6⟩ := h.free
  have r1 := (h.s2 0).s0 0
  have R1 := Lib.hid r1
  have B1 := Lib.hid (bset (i := 0) (u := .int .u32 (0 : Int)) (bset (i := 2) (u := .int .i8 0) (Below.refl B w) hB) hB)
  by_cases h3 : f = 1
  · subst h3
    obtain ⟨d0, d1, d2, d3, d4, d5, d6⟩ := r1.cells
    have c3' : w.cell? ⟨b, 3, none⟩ = some (.int .u8 1) := c3
    clear h r1 c3 d3
    go_enter Tryz.func42, Tryz.ntmps42
    go_wp2_with fail
    refine (makeAcc_any neg _).mono ?_
    rintro _ w1 ⟨rfl, hw1⟩
    obtain ⟨ac, hac⟩ : ∃ ac : Int, ac = (if neg then 1 else -1) := ⟨_, rfl⟩
    rw [← hac]
    have hacb : -1 ≤ ac ∧ ac ≤ 1 := by rw [hac]; cases neg <;> decide
    have HA := Lib.hid hacb
    have R2 := R1.out
    have B2 := B1.out
    rw [show ((0 : Nat) : Int) = 0 from rfl] at R2
    have R2' : FltR w1 b 0 m 0 1 neg v e := hw1 ▸ R2
    have B2' : Below B w w1 := hw1 ▸ B2
    obtain ⟨d0, d1, d2, d3, d4, d5, d6⟩ := R2'.cells
    obtain ⟨g0, g1, g2, g3, g4, g5, g6⟩ := R2'.free
    have R3 := Lib.hid ((R2'.s2 ac).s3 0)
    have B3 := Lib.hid (bset (i := 3) (u := .int .u8 (0 : Int)) (bset (i := 2) (u := .int .i8 ac) B2' hB) hB)
    clear hac hacb R1 B1 R2 B2 R2' B2' hw1
    go_wp2
    go_ret
    exact ⟨rfl, ⟨ac, HA.out, R3.out⟩, B3.out⟩
  · have t2 : ((f : Int) == 1) = false := by rw [beq_eq_false_iff_ne]; omega
    have HZ : Hid (zpF f = f) := Lib.hid (by unfold zpF; rw [if_neg h3])
    clear h h3 r1
    go_enter Tryz.func42, Tryz.ntmps42
    go_wp2
    go_ret
    exact ⟨rfl, ⟨0, by omega, by rw [HZ.out]; exact R1.out⟩, B1.out⟩
set_option maxRecDepth 100000 in
set_option maxHeartbeats 800000 in
theorem copyF_other (b B c p0 m0 f0' p m f : Nat) (a0 e0 a e : Int) (n0 neg : Bool) (u v : Value) (w : World) (h : FltR w b p0 m0 a0 f0' n0 u e0) (hB : B ≤ b) (hx : FltR w c p m a f neg v e) (hbc : b ≠ c) (hf : f ≠ 1) :
    Calls Tryz.prog 72 #[.pointer (some ⟨b, 0, none⟩), .pointer (some ⟨c, 0, none⟩)] w fun e' w' => e' = .returned (.pointer (some ⟨b, 0, none⟩)) ∧ FltR w' b p m a f neg u e0 ∧ Below B w w' := by
  obtain ⟨c0, c1, c2, c3, c4, c5, c6⟩ := h.cells
  obtain ⟨f0, f1, f2, f3, f4, f5, f6⟩ := h.free
  obtain ⟨d0, d1, d2, d3, d4, d5, d6⟩ := hx.cells
  have hcmp := neqF w hbc h hx
  have hbc1 : ¬ b = c := hbc
  have hbc2 : ¬ c = b := fun h => hbc h.symm
  have t1 : ((f : Int) == 1) = false := by rw [beq_eq_false_iff_ne]; omega
  have R5 := Lib.hid (((((h.s0 p).s1 m).s2 a).s3 f).s4 neg)
  have B5 := Lib.hid (bset (i := 4) (u := .bool neg) (bset (i := 3) (u := .int .u8 (f : Int)) (bset (i := 2) (u := .int .i8 a) (bset (i := 1) (u := .int .u8 (m : Int)) (bset (i := 0) (u := .int .u32 (p : Int)) (Below.refl B w) hB) hB) hB) hB) hB)
  clear h hx hf
  go_enter Tryz.func72, Tryz.ntmps72
  go_wp2
  go_ret
  exact ⟨rfl, R5.out, B5.out⟩
/-- The accuracy behind SetMantExp. -/
def smA (f : Nat) (a : Int) : Int := if f = 1 then 0 else a
set_option maxRecDepth 100000 in
set_option maxHeartbeats 800000 in
theorem setMantExp_val (b B c Bx p0 m0 f0' p m f : Nat) (a0 e0 a : Int) (n0 neg : Bool) (M : Nat) (X x : Int) (w : World) (h : FltR w b p0 m0 a0 f0' n0 (.slice none 0 0) e0) (hB : B ≤ b) (hx : FVal w Bx c p m a f neg M X) (hbc : b ≠ c) (hf : f ≤ 2)
    (hp0 : f = 1 → 0 < p) (hp : p ≤ 64000000) (hX : f = 1 → -500000000 ≤ X ∧ X + bl M ≤ 500000000) (hx1 : -500000000 ≤ x) (hx2 : x ≤ 500000000) :
    Calls Tryz.prog 39 #[.pointer (some ⟨b, 0, none⟩), .pointer (some ⟨c, 0, none⟩), .int .i64 x] w fun e' w' => e' = .returned (.pointer (some ⟨b, 0, none⟩)) ∧ FVal w' B b p m (smA f a) f neg M (X + x) ∧ Below B w w' := by
  obtain ⟨v, e, h1, h2⟩ := hx
  by_cases h3 : f = 1
  · subst h3
    obtain ⟨hM, ws, ho, hg, hd⟩ := h2 rfl
    have h0 := hd.symm.pos hM
    have hb := hd.bl h0
    rw [hg.bl] at hb
    have hx2 := hX rfl
    refine (setMantExp_exact b B c p0 m0 f0' p m a0 e0 a e x n0 neg v ws w h hB h1 hbc ho hg.2.2.1 hg.2.2.2.2 hg.1 hg.2.1 (hp0 rfl) hp (by omega) (by omega) (by omega) (by omega)).mono ?_
    rintro _ w' ⟨rfl, r, k1, k2, k3⟩
    refine ⟨rfl, ⟨r, e + x, k1, fun _ => ⟨hM, ws, k2, hg, ?_⟩⟩, k3⟩
    have := hd.exp x
    rw [show e + x - 64 * (ws.length : Int) = e - 64 * (ws.length : Int) + x by omega]
    exact this
  · have HC := Lib.hid (copyF_other b B c p0 m0 f0' p m f a0 e0 a e n0 neg _ v w h hB h1 hbc h3)
    have t1 : ((f : Int) == 1) = false := by rw [beq_eq_false_iff_ne]; omega
    have HF : Hid (∀ w', FltR w' b p m a f neg (.slice none 0 0) e0 → FVal w' B b p m (smA f a) f neg M (X + x)) := Lib.hid (fun w' hw => ⟨_, _, by unfold smA; rw [if_neg h3]; exact hw, fun hc => absurd hc h3⟩)
    clear h h1 h2 hX h3 hp0
    go_enter Tryz.func39, Tryz.ntmps39
    go_wp2_with fail
    refine HC.out.mono ?_
    rintro _ w1 ⟨rfl, k1, k2⟩
    obtain ⟨c0, c1, c2, c3, c4, c5, c6⟩ := k1.cells
    have K1 := Lib.hid (HF.out _ k1)
    have K2 := Lib.hid k2
    clear k1 k2
    go_wp2
    go_ret
    exact ⟨rfl, K1.out, K2.out⟩
/-- The exponent that MantExp tells, and what is left. -/
def mxE (f M : Nat) (X : Int) : Int := if f = 1 then X + bl M else 0
set_option maxRecDepth 100000 in
set_option maxHeartbeats 800000 in
theorem mantExp_val (b B c Bx p0 m0 f0' p m f : Nat) (a0 e0 a : Int) (n0 neg : Bool) (M : Nat) (X : Int) (w : World) (h : FltR w b p0 m0 a0 f0' n0 (.slice none 0 0) e0) (hB : B ≤ b) (hx : FVal w Bx c p m a f neg M X) (hbc : b ≠ c) (hf : f ≤ 2)
    (hX : f = 1 → -500000000 ≤ X ∧ X + bl M ≤ 500000000) :
    Calls Tryz.prog 53 #[.pointer (some ⟨c, 0, none⟩), .pointer (some ⟨b, 0, none⟩)] w fun e' w' => e' = .returned (.int .i64 (mxE f M X)) ∧ FVal w' B b p m a f neg M (-(bl M : Int)) ∧ Below B w w' := by
  obtain ⟨v, e, h1, h2⟩ := hx
  by_cases h3 : f = 1
  · subst h3
    obtain ⟨hM, ws, ho, hg, hd⟩ := h2 rfl
    have h0 := hd.symm.pos hM
    have hb := hd.bl h0
    rw [hg.bl] at hb
    have hx2 := hX rfl
    refine (mantExp_one b B c p0 m0 f0' p m a0 e0 a e n0 neg v ws w h hB h1 hbc ho hg.2.2.1 hg.2.1 (by omega) (by omega)).mono ?_
    rintro _ w' ⟨rfl, r, k1, k2, k3⟩
    refine ⟨by rw [mxE, if_pos rfl, show e = X + bl M by omega], ⟨r, 0, k1, fun _ => ⟨hM, ws, k2, hg, ?_⟩⟩, k3⟩
    have := hd.exp (-e)
    rw [show (0 : Int) - 64 * (ws.length : Int) = e - 64 * (ws.length : Int) + -e by omega, show -(bl M : Int) = X + -e by omega]
    exact this
  · have HC := Lib.hid (copyF_other b B c p0 m0 f0' p m f a0 e0 a e n0 neg _ v w h hB h1 hbc h3)
    have t1 : ((f : Int) == 1) = false := by rw [beq_eq_false_iff_ne]; omega
    have HF : Hid (∀ w', FltR w' b p m a f neg (.slice none 0 0) e0 → FVal w' B b p m a f neg M (-(bl M : Int))) := Lib.hid (fun w' hw => ⟨_, _, hw, fun hc => absurd hc h3⟩)
    have HE : Hid (mxE f M X = 0) := Lib.hid (by rw [mxE, if_neg h3])
    obtain ⟨d0, d1, d2, d3, d4, d5, d6⟩ := h1.cells
    clear h h1 h2 hX h3
    go_enter Tryz.func53, Tryz.ntmps53
    go_wp2_with fail
    refine HC.out.mono ?_
    rintro _ w1 ⟨rfl, k1, k2⟩
    obtain ⟨c0, c1, c2, c3, c4, c5, c6⟩ := k1.cells
    have K1 := Lib.hid (HF.out _ k1)
    have K2 := Lib.hid k2
    clear k1 k2
    go_wp2
    go_ret
    rw [HE.out]
    exact ⟨rfl, K1.out, K2.out⟩
/-- Whether a value is an integer. -/
def iiV (f M : Nat) (X : Int) : Bool := if f = 1 then decide (0 ≤ X + (tz M : Nat)) else decide (f = 0)
end Go.Proofs.YtgbmlaffilccnaaGreatDoor

/-
The package's numbers: make, set, add of whatever receiver. No condition.
-/
namespace Go.Proofs.YtgbmlaffilccnaaGreatDoor
open Go.RowKit

/-- Nothing but what was new and the receiver's own block has turned. -/
def Fr (z : Value) (w w' : World) : Prop := ∀ k, k < w.heap.size → (0 < sCap z → k ≠ sBlk z) → w'.heap[k]? = w.heap[k]?
theorem Fr.refl (z : Value) (w : World) : Fr z w w := fun _ _ _ => rfl
theorem Fr.ofBelow {z : Value} {w w' : World} (h : Below w.heap.size w w') : Fr z w w' := fun k hk _ => h.block k hk
theorem Fr.trans {z : Value} {w1 w2 w3 : World} (h : Fr z w1 w2) (hs : w1.heap.size ≤ w2.heap.size) (k : Fr z w2 w3) : Fr z w1 w3 := fun i hi hn => (k i (by omega) hn).trans (h i hi hn)
theorem Fr.row {z : Value} {w w' : World} (h : Fr z w w') {k : Nat} {o : Obj} (hr : w.heap[k]? = some o) (hn : 0 < sCap z → k ≠ sBlk z) : w'.heap[k]? = some o := (h k (get_lt hr) hn).trans hr
/-- An operand lies elsewhere than the receiver, or right there. -/
def Al (z x : Value) : Prop := 0 < sCap z → sBlk x = sBlk z → sOff x = sOff z
theorem Al.nil (x : Value) : Al (.slice none 0 0) x := fun h => absurd h (by decide)
/-- What make gives. -/
structure MkP (z r : Value) (n B : Nat) (w w' : World) : Prop where
  own : ∃ ys : List Value, ys.length = n ∧ Own w' B 116 r ys
  how : (w' = w ∧ r = subS z 0 n ∧ n ≤ sCap z) ∨ (w.heap.size ≤ sBlk r ∧ sOff r = 0 ∧ Below w.heap.size w w')
set_option maxRecDepth 100000 in
theorem make_any (z : Value) (zs : List Value) (n B : Nat) (w : World) (hz : Own w B 116 z zs) (hn : n ≤ 1000000000) (hB : B ≤ w.heap.size) :
    Calls Tryz.prog 75 #[z, .int .i64 n] w fun e w' => ∃ r, e = .returned r ∧ MkP z r n B w w' := by
  have hS := hz.isS
  by_cases hc : n ≤ sCap z
  · have t1 : decide ((n : Int) ≤ (sCap z : Int)) = true := decide_eq_true (by omega)
    have t1' : decide (n ≤ sCap z) = true := decide_eq_true hc
    obtain ⟨ys, h1, h2⟩ := hz.grow hc
    have Q : Hid (MkP z (subS z 0 n) n B w w) := Lib.hid ⟨⟨ys, h1, h2⟩, .inl ⟨rfl, rfl, hc⟩⟩
    have hS2 := h2.isS
    clear hz h1 h2
    go_enter Tryz.func75, Tryz.ntmps75
    go_wp2
    go_ret
    exact ⟨_, rfl, Q.out⟩
  · have t1 : decide ((n : Int) ≤ (sCap z : Int)) = false := decide_eq_false (by omega)
    have t1' : decide (n ≤ sCap z) = false := decide_eq_false hc
    have hn0 : 0 < n := by omega
    have HB := Lib.hid hB
    clear hz hc hB
    by_cases h1 : n = 1
    · subst h1
      have t2 : decide ((1 : Int) ≤ (sCap z : Int)) = false := t1
      go_enter Tryz.func75, Tryz.ntmps75
      go_wp2_with (at_make; refine wpList_make_O rfl _ _ _ rfl elemT .i64 .i64 _ _ rfl rfl w.heap.size ?c1 ?c2 ?c3 ?c4 ?c5 ?_)
      case c1 => omega
      case c2 => omega
      case c3 => omega
      case c4 => omega
      case c5 => exact Nat.le_refl _
      rintro v w1 rfl ho hb hz
      have Q := Lib.hid (⟨⟨_, by simp, ho.mono HB.out⟩, .inr ⟨by simp, by simp, hb⟩⟩ : MkP z (.slice (some ⟨w.heap.size, 0, none⟩) 1 1) 1 B w w1)
      clear ho hb
      go_wp2
      go_ret
      exact ⟨_, rfl, Q.out⟩
    · have t2 : ((n : Int) == 1) = false := by rw [beq_eq_false_iff_ne]; omega
      clear h1
      go_enter Tryz.func75, Tryz.ntmps75
      go_wp2_with (at_make; refine wpList_make_O rfl _ _ _ rfl elemT .i64 .i64 _ _ rfl rfl w.heap.size ?c1 ?c2 ?c3 ?c4 ?c5 ?_)
      case c1 => omega
      case c2 => omega
      case c3 => omega
      case c4 => omega
      case c5 => exact Nat.le_refl _
      rintro v w1 rfl ho hb hz
      have Q := Lib.hid (⟨⟨_, by simp, ho.mono HB.out⟩, .inr ⟨by simp, by simp, hb⟩⟩ : MkP z (.slice (some ⟨w.heap.size, 0, none⟩) n ((n : Int) + 4).toNat) n B w w1)
      clear ho hb
      go_wp2
      go_ret
      exact ⟨.slice (some ⟨w.heap.size, 0, none⟩) n ((n : Int) + 4).toNat, rfl, Q.out⟩
theorem MkP.below {z r : Value} {n B : Nat} {w w' : World} (h : MkP z r n B w w') : Below w.heap.size w w' := by
  rcases h.how with ⟨rfl, -⟩ | ⟨-, -, hb⟩
  · exact Below.refl _ _
  · exact hb
theorem MkP.al {z r x : Value} {n B : Nat} {xs : List Nat} {w w' : World} (h : MkP z r n B w w') (hz : IsS z) (hn : 0 < n) (ha : Al z x) (hx : RW w x xs) (hl : 0 < xs.length) : sBlk x = sBlk r → sOff x = sOff r := by
  rcases h.how with ⟨-, rfl, hc⟩ | ⟨h1, h2, -⟩
  · rw [subS_blk hz, subS_off0 hz]; exact ha (by omega)
  · intro he
    have := hx.ri.lt (by rw [ints_length]; exact hl)
    omega
/-- What is written in the made slice: the frame of the receiver. -/
theorem MkP.fr {z r : Value} {n B : Nat} {w w1 w2 : World} (h : MkP z r n B w w1) (hz : IsS z) (hn : 0 < n) (_hs : w1.heap.size ≤ w2.heap.size) (ho : Only (sBlk r) w1 w2) : Fr z w w2 := by
  intro k hk hne
  rcases h.how with ⟨rfl, rfl, hc⟩ | ⟨h1, h2, hb⟩
  · exact ho k hk (by rw [subS_blk hz]; exact hne (by omega))
  · exact (ho k (Nat.lt_of_lt_of_le hk hb.size) (by omega)).trans (hb.block k hk)
theorem FrB.ro {b lo hi : Nat} {w w' : World} {v : Value} {ws : List Nat} (h : FrB b lo hi w w') (hv : RO w v ws) (hn : sBlk v = b → sOff v + ws.length ≤ lo ∨ hi ≤ sOff v) : RO w' v ws := by
  refine ⟨h.rw hv.rw hn, fun hl => ?_⟩
  obtain ⟨c, hr⟩ := hv.row hl
  by_cases hb : sBlk v = b
  · obtain ⟨c', h1, -, -⟩ := h.row c _ (0, 0) (hb ▸ hr)
    exact ⟨c', hb ▸ h1⟩
  · exact ⟨c, (h.only _ (get_lt hr) hb).trans hr⟩
/-- A store into a row of another type. -/
theorem RO.away {w : World} {x : Value} {xs : List Nat} {b i T : Nat} {cs : Array Value} {u : Value} (h : RO w x xs) (hr : w.heap[b]? = some (.cells cs T (0, 0))) (hT : T ≠ 116) : RO (w.setCell ⟨b, i, none⟩ u) x xs := by
  have hne : 0 < xs.length → sBlk x ≠ b := fun hl he => by
    obtain ⟨c, h1⟩ := h.row hl
    rw [he, hr] at h1
    exact hT (by injection (Option.some.inj h1))
  refine ⟨⟨⟨h.rw.isS, h.rw.ri.len, fun j hj => ?_⟩, h.rw.lt⟩, fun hl => ?_⟩
  · rw [cell_other (by simpa using fun he => hne (by rw [ints_length] at hj; omega) he.symm)]
    exact h.rw.ri.cell j hj
  · obtain ⟨c, h1⟩ := h.row hl
    exact ⟨c, (heap_setCell_other _ _ _ _ (by simpa using hne hl)).trans h1⟩
theorem RO.fr {w w' : World} {z x : Value} {xs : List Nat} (h : RO w x xs) (hf : Fr z w w') (hne : 0 < sCap z → sBlk x ≠ sBlk z) : RO w' x xs := by
  refine ⟨⟨⟨h.rw.isS, h.rw.ri.len, fun j hj => ?_⟩, h.rw.lt⟩, fun hl => ?_⟩
  · have hc := h.rw.ri.cell j hj
    exact (World.cell?_of_block (hf _ (World.block_lt_of_cell? w _ hc) hne)).trans hc
  · obtain ⟨c, h1⟩ := h.row hl
    exact ⟨c, hf.row h1 hne⟩
theorem MkP.at_ {z r : Value} {n B : Nat} {w w' : World} (h : MkP z r n B w w') (hz : IsS z) (hc : 0 < sCap r) : (0 < sCap z ∧ sBlk r = sBlk z) ∨ w.heap.size ≤ sBlk r := by
  rcases h.how with ⟨-, rfl, hn⟩ | ⟨h1, -, -⟩
  · rw [subS_cap hz, Nat.sub_zero] at hc
    exact .inl ⟨hc, subS_blk hz⟩
  · exact .inr h1
theorem MkP.atS {z r : Value} {n B k : Nat} {w w' : World} (h : MkP z r n B w w') (hz : IsS z) (hr : IsS r) (hc : 0 < sCap (subS r 0 k)) : (0 < sCap z ∧ sBlk (subS r 0 k) = sBlk z) ∨ w.heap.size ≤ sBlk (subS r 0 k) := by
  rw [subS_cap hr, Nat.sub_zero] at hc
  rw [subS_blk hr]
  exact h.at_ hz hc
set_option maxRecDepth 100000 in
theorem set_at (z x : Value) (zs : List Value) (xs : List Nat) (B : Nat) (w : World) (hz : Own w B 116 z zs) (hx : RW w x xs) (hl : xs.length ≤ 1000000000) (hB : B ≤ w.heap.size) :
    Calls Tryz.prog 67 #[z, x] w fun e w' => ∃ r, e = .returned r ∧ Own w' B 116 r (cellsW xs) ∧ Below B w w' ∧ Fr z w w' ∧ (0 < sCap r → (0 < sCap z ∧ sBlk r = sBlk z) ∨ w.heap.size ≤ sBlk r) := by
  have hS := hx.isS
  have hL := hx.len
  have hSz := hz.isS
  have HX := Lib.hid hx
  have HZ := Lib.hid hz
  have HB := Lib.hid hB
  clear hx hz hB
  go_enter Tryz.func67, Tryz.ntmps67
  go_wp2_with fail
  refine (make_any z zs xs.length B w HZ.out hl HB.out).mono ?_
  rintro _ w1 ⟨r, rfl, hm⟩
  obtain ⟨ys, hy, ho⟩ := hm.own
  have hSr := ho.isS
  have hLr : sLen r = xs.length := by rw [ho.len, hy]
  have HO := Lib.hid ho
  have HM := Lib.hid hm
  have HY := Lib.hid hy
  clear ho hm hy
  go_wp2_with (refine wpList_copy_W (o := ⟨some 11, _, _, _, _, _⟩) rfl (.tmp 9) (.tmp 10) 84 84 rfl 116 Tryz.underlying84 sizeW _ _ rfl rfl B ys HO.out (cellsW xs) ?d1 hS ?d2 ?d3 (cellsW_one xs) ?_)
  case d1 => rw [cellsW_length, HY.out]
  case d2 => rw [cellsW_length]; exact hL
  case d3 => exact (HX.out.below HM.out.below).at
  intro w2 ho2 hb2 hf2 hw2
  have hfr2 : Fr z w w2 := by
    rcases Nat.eq_zero_or_pos xs.length with h0 | h0
    · intro k hk hne
      rw [hw2 (by rw [show xs = [] from List.eq_nil_of_length_eq_zero h0]; rfl)]
      exact HM.out.below.block k hk
    · exact HM.out.fr hSz h0 hb2.size hf2.only
  have Q : Hid (Own w2 B 116 r (cellsW xs) ∧ Below B w w2 ∧ Fr z w w2 ∧ (0 < sCap r → (0 < sCap z ∧ sBlk r = sBlk z) ∨ w.heap.size ≤ sBlk r)) := Lib.hid ⟨ho2, (HM.out.below.mono HB.out).trans hb2, hfr2, fun hc => HM.out.at_ hSz hc⟩
  clear ho2 hb2 hf2 hw2 hfr2
  go_wp2
  go_ret
  exact ⟨_, rfl, Q.out⟩
theorem set_any (z x : Value) (zs : List Value) (xs : List Nat) (B : Nat) (w : World) (hz : Own w B 116 z zs) (hx : RW w x xs) (hl : xs.length ≤ 1000000000) (hB : B ≤ w.heap.size) :
    Calls Tryz.prog 67 #[z, x] w fun e w' => ∃ r, e = .returned r ∧ Own w' B 116 r (cellsW xs) ∧ Below B w w' ∧ Fr z w w' :=
  (set_at z x zs xs B w hz hx hl hB).mono fun _ _ ⟨r, h1, h2, h3, h4, _⟩ => ⟨r, h1, h2, h3, h4⟩
end Go.Proofs.YtgbmlaffilccnaaGreatDoor

/-
The package's numbers: add of whatever receiver. No condition.
-/
namespace Go.Proofs.YtgbmlaffilccnaaGreatDoor
open Go.RowKit

/-- A number that lies new, or in the receiver. -/
structure NatR (z r : Value) (N B : Nat) (w w' : World) : Prop where
  own : Own w' B 116 r (cellsW (wds N))
  below : Below B w w'
  fr : Fr z w w'
  at' : 0 < sCap r → (0 < sCap z ∧ sBlk r = sBlk z) ∨ w.heap.size ≤ sBlk r
theorem sub0 {v : Value} {n : Nat} (hS : IsS v) : sBlk (subS v 0 n) = sBlk v ∧ sOff (subS v 0 n) = sOff v := ⟨subS_blk hS, subS_off0 hS⟩
theorem wv_wdsN_lt {Z n : Nat} (h : Z < 18446744073709551616 ^ n) : wv (wdsN Z n) = Z := by rw [wdsN_wv, Nat.mod_eq_of_lt h]
set_option maxRecDepth 100000 in
set_option maxHeartbeats 3200000 in
theorem nadd_core (z x y : Value) (zs : List Value) (xs ys : List Nat) (B : Nat) (w : World) (hz : Own w B 116 z zs) (hx : RO w x xs) (hy : RW w y ys) (ax : Al z x) (ay : Al z y) (hn0 : 0 < ys.length) (hnm : ys.length ≤ xs.length) (hl : xs.length ≤ 100000000) (hB : B ≤ w.heap.size) :
    Calls Tryz.prog 87 #[z, x, y] w fun e w' => ∃ r, e = .returned r ∧ NatR z r (wv xs + wv ys) B w w' := by
  have hS := hz.isS
  have hSx := hx.rw.isS
  have hSy := hy.isS
  obtain ⟨m, hm⟩ : ∃ m, m = xs.length := ⟨_, rfl⟩
  obtain ⟨n, hn⟩ : ∃ n, n = ys.length := ⟨_, rfl⟩
  have hLx : sLen x = m := by rw [hx.rw.len, hm]
  have hLy : sLen y = n := by rw [hy.len, hn]
  have hcx : m ≤ sCap x := by have := hSx.le; omega
  have hcy : n ≤ sCap y := by have := hSy.le; omega
  rw [← hn] at hn0 hnm
  rw [← hm] at hnm hl
  have t1 : decide ((m : Int) < (n : Int)) = false := decide_eq_false (by omega)
  have t2 : ((m : Int) == 0) = false := by rw [beq_eq_false_iff_ne]; omega
  have t3 : ((n : Int) == 0) = false := by rw [beq_eq_false_iff_ne]; omega
  have e1 : (m : Int) + 1 = ((m + 1 : Nat) : Int) := by omega
  obtain ⟨m1, hm1⟩ : ∃ m1, m1 = m + 1 := ⟨_, rfl⟩
  rw [← hm1] at e1
  have HM := Lib.hid hm
  have HN := Lib.hid hn
  have HZ := Lib.hid hz
  have HX := Lib.hid hx
  have HY := Lib.hid hy
  have HAX := Lib.hid ax
  have HAY := Lib.hid ay
  have HB := Lib.hid hB
  have HM1 := Lib.hid hm1
  have hm1b : m1 ≤ 1000000000 := by omega
  have hm1p : 0 < m1 := by omega
  have hmm1 : m < m1 := by omega
  have hnm1 : n ≤ m1 := by omega
  clear hz hx hy ax ay hB hm hn hm1
  go_enter Tryz.func87, Tryz.ntmps87
  go_wp2_with fail
  refine (make_any z zs m1 B w HZ.out hm1b HB.out).mono ?_
  rintro _ w1 ⟨r, rfl, hmk⟩
  obtain ⟨os, hos, hor⟩ := hmk.own
  have hSr := hor.isS
  have hLr : sLen r = m1 := by rw [hor.len, hos]
  have hcr : m1 ≤ sCap r := by have := hSr.le; omega
  have hcr0 : 0 < sCap r := by omega
  have hBr := (hor.lt hcr0).1
  have hX1 := HX.out.below hmk.below
  have hY1 := HY.out.below hmk.below
  have aX := hmk.al hS hm1p HAX.out HX.out.rw (by rw [← HM.out]; omega)
  have aY := hmk.al hS hm1p HAY.out HY.out (by rw [← HN.out]; exact hn0)
  have hSr0 : IsS (subS r 0 n) := subS_isS hSr (Nat.zero_le _) (by omega)
  have hSx0 : IsS (subS x 0 n) := subS_isS hSx (Nat.zero_le _) (by omega)
  have hSy0 : IsS (subS y 0 n) := subS_isS hSy (Nat.zero_le _) (by omega)
  have hsub := hor.sub (l := 0) (n := n) (Nat.zero_le _) (by omega)
  have hsl : ((os.take n).drop 0).length = n := by simp; omega
  have hxt := hX1.rw.take (n := n) (by rw [← HM.out]; exact hnm)
  have hyt := hY1.take (n := n) (by rw [← HN.out]; exact Nat.le_refl _)
  rw [List.take_of_length_le (by rw [← HN.out]; exact Nat.le_refl _)] at hyt
  have HADD : Hid (∀ k, Calls Tryz.prog 102 #[subS r 0 n, subS x 0 n, subS y 0 n] (w1.drewN k) fun e w' => ∃ c : Nat, e = .returned (.int .u64 c) ∧ (c ≤ 1 ∧ wv (xs.take n) + wv ys = wv (wdsN (wv (xs.take n) + wv ys) n) + 18446744073709551616 ^ n * c) ∧ VvP (subS r 0 n) n B (wv (xs.take n) + wv ys) w1 w') := Lib.hid (fun k => by
    have := addVV_any (subS r 0 n) (subS x 0 n) (subS y 0 n) ((os.take n).drop 0) (xs.take n) ys B (w1.drewN k) (hsub.drewN k) (hxt.below (undrewN' (Below.refl _ _))) (hyt.below (undrewN' (Below.refl _ _))) (by rw [hsl, List.length_take, ← HM.out]; omega) (by rw [hsl, ← HN.out]) (by rw [(sub0 hSx).1, (sub0 hSr).1, (sub0 hSx).2, (sub0 hSr).2]; intro h; rw [aX h]; exact Nat.le_refl _)
      (by rw [(sub0 hSy).1, (sub0 hSr).1, (sub0 hSy).2, (sub0 hSr).2]; intro h; rw [aY h]; exact Nat.le_refl _) (by rw [hsl]; omega)
    rw [hsl] at this
    refine this.mono ?_
    rintro _ w' ⟨c, rfl, h1, h2, h3, h4⟩
    exact ⟨c, rfl, h1, h2, undrewN h3, h4.undrewN⟩)
  have HOR := Lib.hid hor
  have HOS := Lib.hid hos
  have HMK := Lib.hid hmk
  have HX1 := Lib.hid hX1
  have HAXR := Lib.hid aX
  clear hor hos hmk hX1 hY1 aX aY hsub hsl hxt hyt
  go_wp2_with fail
  (refine wp_region_hoist 9 (by kernel_rfl) (by kernel_rfl) ⟨fun _ _ _ h => (by first | exact (hQp _ _ _ h).elim | cases h.2.1 | (obtain ⟨_, h3, _⟩ := h.2; cases h3)), fun _ _ h => (by first | exact (hQo _ _ h).elim | cases h.1 | (obtain ⟨_, h3, _⟩ := h; cases h3))⟩ ?_; simp only [List.take_succ_cons, List.take_zero, List.drop_succ_cons, List.drop_zero]; (repeat (go_big_quiet_step (fail))); refine wpQuiet_nil ?_; rintro _ ⟨nq, rfl⟩)
  go_wp2_with fail
  refine (HADD.out _).mono ?_
  rintro _ w2 ⟨c, rfl, ⟨hc1, hcs⟩, hvp⟩
  have hpt := VvP.patch (l := 0) (n := n) HOR.out (Nat.zero_le _) (by rw [HOS.out]; exact hnm1) hvp
  rw [List.take_zero, List.nil_append, Nat.sub_zero] at hpt
  have HCS := Lib.hid hcs
  have HPT := Lib.hid hpt
  clear hcs hpt hvp
  by_cases hmn : n < m
  · have t4 : decide ((n : Int) < (m : Int)) = true := decide_eq_true (by omega)
    have t4' : decide (n < m) = true := decide_eq_true hmn
    obtain ⟨ho2, hb2, hf2⟩ := HPT.out
    have hSr1 : IsS (subS r n m) := subS_isS hSr hnm (by omega)
    have hSx1 : IsS (subS x n m) := subS_isS hSx hnm hcx
    have hsub := ho2.sub (l := n) (n := m) hnm (by simp [cellsW_length, wdsN_length]; rw [HOS.out]; omega)
    have hsl : (((cellsW (wdsN (wv (xs.take n) + wv ys) n) ++ os.drop n).take m).drop n).length = m - n := by simp [cellsW_length, wdsN_length]; rw [HOS.out]; omega
    have hxd : RO w2 (subS x n m) (xs.drop n) := by
      have h1 := HX1.out.drop (n := n) (by rw [← HM.out]; exact hnm)
      rw [← HM.out] at h1
      refine hf2.ro h1 fun hb => .inr ?_
      rw [subS_blk hSx] at hb
      rw [subS_off hSx (by omega), HAXR.out hb]; omega
    have HADW : Hid (∀ k, Calls Tryz.prog 95 #[subS r n m, subS x n m, .int .u64 c] (w2.drewN k) fun e w' => ∃ d : Nat, e = .returned (.int .u64 d) ∧ ∃ Z, d ≤ 1 ∧ Z < 18446744073709551616 ^ (m - n) ∧ wv (xs.drop n) + c = Z + 18446744073709551616 ^ (m - n) * d ∧ VvP (subS r n m) (m - n) B Z w2 w') := Lib.hid (fun k => by
      have := addVW_gen (subS r n m) (subS x n m) _ (xs.drop n) c B (w2.drewN k) (hsub.drewN k) (hxd.below (undrewN' (Below.refl _ _))) (by rw [hsl, List.length_drop, ← HM.out]) (by rw [subS_blk hSx, subS_blk hSr]; intro h; rw [subS_off hSx (by omega), subS_off hSr (by omega), HAXR.out h]) (by rw [hsl]; omega) (by rw [hsl]; omega) (by omega)
      rw [hsl] at this
      refine this.mono ?_
      rintro _ w' ⟨d, rfl, Z, h1, h2, h3, h4, h5, h6⟩
      exact ⟨d, rfl, Z, h1, h2, h3, h4, undrewN h5, h6.undrewN⟩)
    have HO2 := Lib.hid ho2
    have HB2 := Lib.hid hb2
    have HF2 := Lib.hid hf2
    clear ho2 hb2 hf2 hsub hsl hxd HPT
    go_wp2_with fail
    (refine wp_region_hoist 8 (by kernel_rfl) (by kernel_rfl) ⟨fun _ _ _ h => (by first | exact (hQp _ _ _ h).elim | cases h.2.1 | (obtain ⟨_, h3, _⟩ := h.2; cases h3)), fun _ _ h => (by first | exact (hQo _ _ h).elim | cases h.1 | (obtain ⟨_, h3, _⟩ := h; cases h3))⟩ ?_; simp only [List.take_succ_cons, List.take_zero, List.drop_succ_cons, List.drop_zero]; (repeat (go_big_quiet_step (fail))); refine wpQuiet_nil ?_; rintro _ ⟨nq, rfl⟩)
    go_wp2_with fail
    refine (HADW.out _).mono ?_
    rintro _ w3 ⟨d, rfl, Z, hd1, hZl, hZ, hvp⟩
    have hpt := VvP.patch (l := n) (n := m) HO2.out hnm (by simp [cellsW_length, wdsN_length]; rw [HOS.out]; omega) hvp
    obtain ⟨ho3, hb3, hf3⟩ := hpt
    have hle : (cellsW (wdsN (wv (xs.take n) + wv ys) n)).length = n := by rw [cellsW_length, wdsN_length]
    have e2 : (cellsW (wdsN (wv (xs.take n) + wv ys) n) ++ os.drop n).take n = cellsW (wdsN (wv (xs.take n) + wv ys) n) := List.take_left' hle
    have e3 : (cellsW (wdsN (wv (xs.take n) + wv ys) n) ++ os.drop n).drop m = os.drop m := by
      rw [show m = n + (m - n) by omega, ← List.drop_drop, List.drop_left' hle, List.drop_drop]
    rw [e2, e3] at ho3
    have hset := ho3.set (i := m) (by simp [cellsW_length, wdsN_length]; rw [HOS.out]; omega) (.int .u64 (d : Int))
    have e4 : (cellsW (wdsN (wv (xs.take n) + wv ys) n) ++ (cellsW (wdsN Z (m - n)) ++ os.drop m)).set m (.int .u64 (d : Int)) = cellsW (wdsN (wv (xs.take n) + wv ys) n ++ (wdsN Z (m - n) ++ [d])) := by
      obtain ⟨u, hu⟩ : ∃ u, os.drop m = [u] := by
        have h1 : (os.drop m).length = 1 := by rw [List.length_drop, HOS.out]; have := HM1.out; omega
        match h : os.drop m, h1 with
        | [u], _ => exact ⟨u, rfl⟩
      rw [hu, List.set_append_right _ _ (by omega), hle, List.set_append_right _ _ (by rw [cellsW_length, wdsN_length]; exact Nat.le_refl _), cellsW_length, wdsN_length, Nat.sub_self, ← cellsW_append, ← cellsW_append]
      rfl
    rw [e4] at hset
    have hnum : wv (wdsN (wv (xs.take n) + wv ys) n ++ (wdsN Z (m - n) ++ [d])) = wv xs + wv ys := by
      rw [wv_append, wdsN_length, wv_append, wdsN_length, wv_wdsN_lt hZl, show wv [d] = d by simp [wv], ← hZ, wv_split xs n (by rw [← HM.out]; exact hnm), Nat.mul_add]
      have := HCS.out
      omega
    have hlt : ∀ e ∈ wdsN (wv (xs.take n) + wv ys) n ++ (wdsN Z (m - n) ++ [d]), e < 18446744073709551616 := by
      intro e he
      rcases List.mem_append.1 he with h | h
      · exact wdsN_lt e h
      · rcases List.mem_append.1 h with h | h
        · exact wdsN_lt e h
        · rw [List.mem_singleton] at h; omega
    have cm : ∃ u, w3.cell? ⟨sBlk r, sOff r + m, none⟩ = some u := ⟨_, ho3.cell (List.getElem?_eq_getElem (by simp [cellsW_length, wdsN_length]; rw [HOS.out]; omega))⟩
    obtain ⟨u, cm⟩ := cm
    have fz := ho3.frozen hcr0 (sOff r + m)
    have hB3 := bset (i := sOff r + m) (u := .int .u64 (d : Int)) (HB2.out.trans hb3) hBr
    have hF3 : Only (sBlk r) w1 (w3.setCell ⟨sBlk r, sOff r + m, none⟩ (.int .u64 (d : Int))) := fun k hk hne => by
      rw [heap_setCell_other _ _ _ _ (by simpa using hne), hf3.only k (Nat.lt_of_lt_of_le hk HB2.out.size) hne]; exact HF2.out.only k hk hne
    have Q : Hid (NatR z (subS r 0 (nw (wv xs + wv ys))) (wv xs + wv ys) B w (w3.setCell ⟨sBlk r, sOff r + m, none⟩ (.int .u64 (d : Int)))) := Lib.hid (by
      have h1 := hset.takeW hlt
      rw [hnum] at h1
      exact ⟨h1, (HMK.out.below.mono HB.out).trans hB3, HMK.out.fr hS hm1p hB3.size hF3, fun hc => HMK.out.atS hS hSr hc⟩)
    have HNM := Lib.hid (norm_any r _ (w3.setCell ⟨sBlk r, sOff r + m, none⟩ (.int .u64 (d : Int))) (hset.rw' hlt) (by simp [wdsN_length]; omega))
    rw [hnum] at HNM
    have hSq := Q.out.own.isS
    clear ho3 hb3 hf3 hle e2 e3 hset e4 hnum hlt hvp hZ hB3 hF3 HADW HADD
    go_wp2_with fail
    refine HNM.out.mono ?_
    rintro _ _ ⟨rfl, rfl⟩
    go_wp2
    go_ret
    exact ⟨_, rfl, Q.out⟩
  · have hmn2 : m = n := by omega
    have t4 : decide ((n : Int) < (m : Int)) = false := decide_eq_false (by omega)
    have t4' : decide (n < m) = false := decide_eq_false hmn
    obtain ⟨ho2, hb2, hf2⟩ := HPT.out
    have hle : (cellsW (wdsN (wv (xs.take n) + wv ys) n)).length = n := by rw [cellsW_length, wdsN_length]
    have hset := ho2.set (i := m) (by simp [cellsW_length, wdsN_length]; rw [HOS.out]; omega) (.int .u64 (c : Int))
    have e4 : (cellsW (wdsN (wv (xs.take n) + wv ys) n) ++ os.drop n).set m (.int .u64 (c : Int)) = cellsW (wdsN (wv (xs.take n) + wv ys) n ++ [c]) := by
      obtain ⟨u, hu⟩ : ∃ u, os.drop n = [u] := by
        have h1 : (os.drop n).length = 1 := by rw [List.length_drop, HOS.out]; have := HM1.out; omega
        match h : os.drop n, h1 with
        | [u], _ => exact ⟨u, rfl⟩
      rw [hu, List.set_append_right _ _ (by omega), hle, show m - n = 0 by omega, ← cellsW_append]
      rfl
    rw [e4] at hset
    have hnum : wv (wdsN (wv (xs.take n) + wv ys) n ++ [c]) = wv xs + wv ys := by
      have := HCS.out
      rw [wv_append, wdsN_length, show wv [c] = c by simp [wv], ← this, List.take_of_length_le (by rw [← HM.out]; omega)]
    have hlt : ∀ e ∈ wdsN (wv (xs.take n) + wv ys) n ++ [c], e < 18446744073709551616 := by
      intro e he
      rcases List.mem_append.1 he with h | h
      · exact wdsN_lt e h
      · rw [List.mem_singleton] at h; omega
    obtain ⟨u, cm⟩ : ∃ u, w2.cell? ⟨sBlk r, sOff r + m, none⟩ = some u := ⟨_, ho2.cell (List.getElem?_eq_getElem (by simp [cellsW_length, wdsN_length]; rw [HOS.out]; omega))⟩
    have fz := ho2.frozen hcr0 (sOff r + m)
    have hB3 := bset (i := sOff r + m) (u := .int .u64 (c : Int)) hb2 hBr
    have hF3 : Only (sBlk r) w1 (w2.setCell ⟨sBlk r, sOff r + m, none⟩ (.int .u64 (c : Int))) := fun k hk hne => by
      rw [heap_setCell_other _ _ _ _ (by simpa using hne)]; exact hf2.only k hk hne
    have Q : Hid (NatR z (subS r 0 (nw (wv xs + wv ys))) (wv xs + wv ys) B w (w2.setCell ⟨sBlk r, sOff r + m, none⟩ (.int .u64 (c : Int)))) := Lib.hid (by
      have h1 := hset.takeW hlt
      rw [hnum] at h1
      exact ⟨h1, (HMK.out.below.mono HB.out).trans hB3, HMK.out.fr hS hm1p hB3.size hF3, fun hc => HMK.out.atS hS hSr hc⟩)
    have HNM := Lib.hid (norm_any r _ (w2.setCell ⟨sBlk r, sOff r + m, none⟩ (.int .u64 (c : Int))) (hset.rw' hlt) (by simp [wdsN_length]; omega))
    rw [hnum] at HNM
    have hSq := Q.out.own.isS
    clear ho2 hb2 hf2 hle hset e4 hnum hlt hB3 hF3 HADD HPT hmn hmn2
    go_wp2_with fail
    refine HNM.out.mono ?_
    rintro _ _ ⟨rfl, rfl⟩
    go_wp2
    go_ret
    exact ⟨_, rfl, Q.out⟩
end Go.Proofs.YtgbmlaffilccnaaGreatDoor
