/-
Texts of this proof, joined: InI VvB VvL. No condition.
-/
import Derived.Test.YtlapgbkngkejpaaK07
/-
The thin package's fractions: fraction. No condition.
-/
namespace Go.Proofs.Ytlapgbkngkejpaa
open Go.RowKit

set_option maxRecDepth 100000 in
set_option maxHeartbeats 800000 in
theorem frac_any (b B : Nat) (neg : Bool) (n d : Nat) (w : World) (h : RatP w B b neg n d) (hd : 0 < d) (hl1 : nw n ≤ 100000000) (hl2 : nw d ≤ 100000000) :
    Calls Try.prog 15 #[.pointer (some ⟨b, 0, none⟩)] w fun e w' => ∃ r1 r2, e = .returned (.agg #[.bool (neg && decide (0 < n)), r1, r2]) ∧ RW w' r1 (wds n) ∧ RW w' r2 (wds d) ∧ Below w.heap.size w w' := by
  have hab := (Below.refl w.heap.size w).alloc (Nat.le_refl _) (.cells #[.bool false, .slice none 0 0, .slice none 0 0] 26)
  have hrow0 := box_row (Below.refl _ (w.alloc (.cells #[.bool false, .slice none 0 0, .slice none 0 0] 26)))
  obtain ⟨W, hW⟩ : ∃ W, W = w.alloc (.cells #[.bool false, .slice none 0 0, .slice none 0 0] 26) := ⟨_, rfl⟩
  rw [← hW] at hab hrow0
  obtain ⟨v1, v2, hB, hr, ho1, ho2⟩ := h
  have hr' := keep_row hab hr
  have k0 := (row_at (i := 0) hr' rfl).1
  have k1 := (row_at (i := 1) hr' rfl).1
  have R1 := Lib.hid ((ho1.rw' (wds_all n)).below hab)
  have R2 := Lib.hid ((ho2.rw' (wds_all d)).below hab)
  have hS1 := ho1.isS
  have hS2 := ho2.isS
  have hL2 : 0 < sLen v2 := by rw [ho2.len, cellsW_length, wds_length]; exact nw_pos hd
  have HR := Lib.hid hr'
  have H0 := Lib.hid hrow0
  have hWs := hab.size
  obtain ⟨x, hx⟩ : ∃ x, x = (neg && decide (0 < n)) := ⟨_, rfl⟩
  rw [← hx]
  have HX := Lib.hid hx
  clear hr hr' hrow0 ho1 ho2 hx
  go_enter Try.func15, Try.ntmps15
  go_upto_region 1 with fail
  rw [← hW]
  clear hW
  go_wp2_with fail
  refine (ratNum b W).mono ?_
  rintro _ _ ⟨rfl, rfl⟩
  go_wp2_with fail
  refine (told_any b 0 neg v1 n W k0 k1 R1.out hl1).mono ?_
  rintro _ w1 ⟨r1, rfl, hq1, hb1⟩
  rw [← HX.out]
  have hSr1 := hq1.isS
  have k3 := (row_at (i := 3) (keep_row hb1 HR.out) rfl).1
  have HB1 := Lib.hid hb1
  have HQ1 := Lib.hid hq1
  clear hb1 hq1 k0 k1
  go_wp2_with fail
  refine (ratDenom b v2 w1 k3 hS2 hL2).mono ?_
  rintro _ _ ⟨rfl, rfl⟩
  go_wp2_with fail
  refine (wordsOf_any b 2 v2 (wds d) w1 k3 (R2.out.below HB1.out) (by rw [wds_length]; exact hl2)).mono ?_
  rintro _ w2 ⟨r2, rfl, hq2, hb2⟩
  have hSr2 := hq2.isS
  have hb12 := bthen HB1.out hb2
  have hrow2 := keep_row hb12 H0.out
  have k0 := row_at (i := 0) hrow2 rfl
  have k1 := row_at (i := 1) hrow2 rfl
  have k2 := row_at (i := 2) hrow2 rfl
  obtain ⟨k00, k01⟩ := k0
  obtain ⟨k10, k11⟩ := k1
  obtain ⟨k20, k21⟩ := k2
  have p1 := rowset (i := 0) (.bool x) hrow2
  have p2 := rowset (i := 1) r1 p1
  have p3 := rowset (i := 2) r2 p2
  have e0 := (row_at (i := 0) p3 rfl).1
  have e1 := (row_at (i := 1) p3 rfl).1
  have e2 := (row_at (i := 2) p3 rfl).1
  have a1 := (((HQ1.out.below hb2).away hrow2 (by decide) 0 (.bool x)).away p1 (by decide) 1 r1).away p2 (by decide) 2 r2
  have a2 := ((hq2.away hrow2 (by decide) 0 (.bool x)).away p1 (by decide) 1 r1).away p2 (by decide) 2 r2
  have b1 := bset (i := 2) (u := r2) (bset (i := 1) (u := r1) (bset (i := 0) (u := .bool x) (hab.trans (hb12.mono hWs)) (Nat.le_refl _)) (Nat.le_refl _)) (Nat.le_refl _)
  have A1 := Lib.hid (a1.rw' (wds_all n))
  have A2 := Lib.hid (a2.rw' (wds_all d))
  have B1 := Lib.hid b1
  clear hq2 hb2 hb12 hrow2 p1 p2 p3 a1 a2 b1 k3
  go_wp2
  refine bodyPost_ret (v := .agg #[.bool x, r1, r2]) ?_ rfl ⟨r1, r2, rfl, A1.out, A2.out, B1.out⟩
  simp [results, Try.results15, go_sem, e0, e1, e2]
end Go.Proofs.Ytlapgbkngkejpaa

/-
addVV and subVV, whatever of their operands lies where the result goes. No condition.
-/
namespace Go.Proofs.Ytlapgbkngkejpaa
open Go.RowKit

/-- The rule of the carries, taken from the model's own list. -/
def subEntry : Array Value → Sem Value := (Extern.MathBitsCarry.rows[1]!).2
theorem run_sub64 {P : Program} (x y c d b : Nat) (hc : c ≤ 1) (hb : b ≤ 1) (h : x + 18446744073709551616 * b = d + y + c) (hx : x < 18446744073709551616) (hy : y < 18446744073709551616) (hd : d < 18446744073709551616) (w : World) :
    (subEntry #[.int .u64 x, .int .u64 y, .int .u64 c]).run P w = .ok (.tuple #[.int .u64 d, .int .u64 b]) w := by
  have key : (subEntry #[.int .u64 (x : Int), .int .u64 (y : Int), .int .u64 (c : Int)]).run P w = .ok (Extern.MathBitsCarry.pair ((x + Extern.MathBitsCarry.m64 - y - c) % Extern.MathBitsCarry.m64) (if x < y + c then 1 else 0)) w := by
    rcases (by omega : c = 0 ∨ c = 1) with rfl | rfl <;> rfl
  rw [key]
  have e1 : (x + Extern.MathBitsCarry.m64 - y - c) % Extern.MathBitsCarry.m64 = d := by
    have : Extern.MathBitsCarry.m64 = 18446744073709551616 := by decide
    rw [this]; omega
  have e2 : (if x < y + c then 1 else 0) = b := by split <;> omega
  rw [e1, e2]; rfl
theorem wv_take_succ' {ws : List Nat} {i : Nat} (h : i < ws.length) : wv (ws.take (i + 1)) = wv (ws.take i) + 18446744073709551616 ^ i * ws.getD i 0 := wv_take_succ h
/-- A difference with its borrow. -/
def sbN (X Y n c : Nat) : Nat := X + 18446744073709551616 ^ n * c - Y
end Go.Proofs.Ytlapgbkngkejpaa

/-
lshVU: a number's words are shifted to the left, in place or from elsewhere; lsh into a new slice. No condition.
-/
namespace Go.Proofs.Ytlapgbkngkejpaa
open Go.RowKit

/-- The words from place k on are Y's. -/
def Vd (v : Value) (n B k Y : Nat) (w wr : World) : Prop :=
  ∃ os : List Value, Own wr B 66 v os ∧ os.length = n ∧ (∀ j, k ≤ j → j < n → os[j]? = some (.int .u64 ((wdg Y j : Nat) : Int))) ∧ Below B w wr ∧ FrB (sBlk v) (sOff v + k) (sOff v + n) w wr
theorem Vd.start {v : Value} {B Y n : Nat} {os : List Value} {w : World} (h : Own w B 66 v os) (hn : os.length = n) : Vd v n B n Y w w :=
  ⟨os, h, hn, fun j h1 h2 => by omega, Below.refl _ _, FrB.refl _ _ _ _⟩
theorem Vd.put {v : Value} {n B k Y : Nat} {w wr : World} (h : Vd v n B (k + 1) Y w wr) (hk : k < n) (hc : B ≤ sBlk v) {y : Nat} (hy : y = wdg Y k) : Vd v n B k Y w (wr.setCell ⟨sBlk v, sOff v + k, none⟩ (.int .u64 (y : Int))) := by
  obtain ⟨os, h1, h2, h4, h5, h6⟩ := h
  have ho := h1.set (i := k) (by omega) (.int .u64 (y : Int))
  refine ⟨os.set k (.int .u64 (y : Int)), ho, by simpa using h2, fun j hj hjn => ?_, bset h5 hc, (h6.mono (by omega) (Nat.le_refl _)).set (Nat.le_refl _) (by omega) _⟩
  rw [List.getElem?_set]
  split
  · rename_i e; subst e; rw [if_pos (by omega), hy]
  · exact h4 j (by omega) hjn
theorem Vd.drewN {v : Value} {n B i Y k : Nat} {w wr : World} (h : Vd v n B i Y w wr) : Vd v n B i Y w (wr.drewN k) := by
  obtain ⟨os, h1, h2, h4, h5, h6⟩ := h
  exact ⟨os, h1.drewN _, h2, h4, undrewN' h5, h6.drewN⟩
theorem Vd.done {v : Value} {n B Y : Nat} {w wr : World} (h : Vd v n B 0 Y w wr) : VvP v n B Y w wr := by
  obtain ⟨os, h1, h2, h4, h5, h6⟩ := h
  have e : os = cellsW (wdsN Y n) := by
    apply List.ext_getElem?
    intro i
    by_cases hi : i < n
    · rw [h4 i (Nat.zero_le _) hi, cellsW, List.getElem?_map, wdsN, List.getElem?_map, List.getElem?_range hi]; rfl
    · rw [List.getElem?_eq_none (by omega), List.getElem?_eq_none (by rw [cellsW_length, wdsN_length]; omega)]
  rw [VvP, ← e]
  exact ⟨h1, h5, h6⟩
theorem Vd.src {v x : Value} {n B k Y : Nat} {xs : List Nat} {w wr : World} (h : Vd v n B k Y w wr) (hx : RW w x xs) (hal : sBlk x = sBlk v → sOff x ≤ sOff v) {j : Nat} (hij : j < k) (hj : j < xs.length) : wr.cell? ⟨sBlk x, sOff x + j, none⟩ = some (.int .u64 ((xs.getD j 0 : Nat) : Int)) := by
  obtain ⟨os, h1, h2, h4, h5, h6⟩ := h
  exact h6.cell (hx.cell j hj) (fun hb => by have := hal hb; omega)
theorem Vd.frozen {v : Value} {n B i Z : Nat} {w wr : World} (h : Vd v n B i Z w wr) (hc : 0 < sCap v) (k : Nat) : wr.frozen? ⟨sBlk v, k, none⟩ = false := by
  obtain ⟨os, h1, -⟩ := h
  exact h1.frozen hc k
theorem Vd.own {v : Value} {n B i Z : Nat} {w wr : World} (h : Vd v n B i Z w wr) {k : Nat} (hk : k < n) : ∃ u : Value, wr.cell? ⟨sBlk v, sOff v + k, none⟩ = some u := by
  obtain ⟨os, h1, h2, -⟩ := h
  exact ⟨_, h1.cell (List.getElem?_eq_getElem (by omega))⟩
end Go.Proofs.Ytlapgbkngkejpaa
