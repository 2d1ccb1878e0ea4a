/-
Texts of this proof, joined: TzC TzD InF TzE SrA NvD SrC SrD SrE SrF TzF FlS FlT FlU FlV LwO LwA AsA AsE. No condition.
-/
import Derived.Test.YtllhnjpnkmjopaaGreatDoorK01
import Derived.Test.YtllhnjpnkmjopaaGreatDoorK02
import Derived.Test.YtllhnjpnkmjopaaGreatDoorK03
import Derived.Test.YtllhnjpnkmjopaaGreatDoorK04
import Derived.Test.YtllhnjpnkmjopaaGreatDoorK08
import Derived.Test.YtllhnjpnkmjopaaGreatDoorK15
import Derived.Test.YtllhnjpnkmjopaaGreatDoorK16
import Derived.Test.YtllhnjpnkmjopaaGreatDoorK17
namespace Go.Proofs.YtllhnjpnkmjopaaGreatDoor
open Go.RowKit

set_option maxRecDepth 100000 in
set_option maxHeartbeats 800000 in
theorem minPrec_one (b p m : Nat) (a e : Int) (neg : Bool) (v : Value) (ws : List Nat) (w : World) (h : FltR w b p m a 1 neg v e) (hv : RW w v ws) (h0 : 0 < wv ws) (hl : ws.length ≤ 1000000) (htop : bl (wv ws) = 64 * ws.length) (hT : TabW w) :
    Calls Tryz.prog 86 #[.pointer (some ⟨b, 0, none⟩)] w fun e' w' => e' = .returned (.int .u64 (bl (od (wv ws)) : Nat)) ∧ ∃ n, w' = w.drewN n := by
  obtain ⟨c0, c1, c2, c3, c4, c5, c6⟩ := h.cells
  have hS := hv.isS
  have hL := hv.len
  have hb := bl_od h0
  obtain ⟨t, ht⟩ : ∃ t, t = tz (wv ws) := ⟨_, rfl⟩
  obtain ⟨q, hq⟩ : ∃ q, q = bl (od (wv ws)) := ⟨_, rfl⟩
  obtain ⟨L, hLL⟩ : ∃ L, L = ws.length := ⟨_, rfl⟩
  have hTz : ∀ k, Calls Tryz.prog 130 #[v] (w.drewN k) fun e' w' => e' = .returned (.int .u64 (t : Nat)) ∧ w' = w.drewN k := fun k => by
    rw [ht]
    refine (tzb_any v ws (w.drewN k) (hv.below (undrewN' (Below.refl _ _))) h0 (by omega) (hT.drewN k)).mono ?_
    rintro _ _ ⟨rfl, rfl⟩
    exact ⟨rfl, rfl⟩
  have HTz := Lib.hid hTz
  have e1 : (L : Int) * 64 - (t : Int) = (q : Int) := by rw [htop, ← hq, ← ht, ← hLL] at hb; omega
  rw [← hq]
  rw [← hLL] at hL hl
  have hqb : q ≤ 64000000 := by omega
  have htb : t ≤ 64000000 := by omega
  clear h hv h0 htop hT hTz ht hq hLL hb
  go_enter Tryz.func86, Tryz.ntmps86
  go_wp2_with fail
  go_quiet ((go_at_call 130; exact Calls.quiet_of_same (HTz.out _)))
  go_wp2
  go_ret
  exact ⟨rfl, _, rfl⟩
theorem intP_of {w : World} {B g n : Nat} {neg : Bool} {v : Value} (hB : B ≤ g) (h : w.heap[g]? = some (.cells #[.bool neg, v] 110 (0, 0))) (ho : Own w B 116 v (cellsW (wds n))) : IntP w B g neg n := ⟨v, hB, h, ho⟩
def accI (neg ex : Bool) : Int := if ex then 0 else if neg then 1 else -1
set_option maxRecDepth 100000 in
set_option maxHeartbeats 3200000 in
theorem floatInt_le (b p m k : Nat) (a : Int) (neg : Bool) (v : Value) (ws : List Nat) (w : World) (h : FltR w b p m a 1 neg v (k : Int)) (hv : RW w v ws) (h0 : 0 < wv ws) (hl : ws.length ≤ 1000000) (htop : bl (wv ws) = 64 * ws.length) (hT : TabW w)
    (hk0 : 0 < k) (hk : k ≤ 64 * ws.length) :
    Calls Tryz.prog 88 #[.pointer (some ⟨b, 0, none⟩), .pointer none] w fun e' w' => ∃ g, e' = .returned (.tuple #[.pointer (some ⟨g, 0, none⟩), .int .i8 (accI neg (decide (bl (od (wv ws)) ≤ k)))]) ∧ IntP w' w.heap.size g neg (wv ws / 2 ^ (64 * ws.length - k)) ∧ Below w.heap.size w w' := by
  have hS := hv.isS
  have hL := hv.len
  have hrow : (w.alloc (.cells #[.bool false, .slice none 0 0] 110)).heap[w.heap.size]? = some (.cells #[.bool false, .slice none 0 0] 110 (0, 0)) := box_row (Below.refl _ _)
  obtain ⟨X, hX⟩ : ∃ X, X = w.alloc (.cells #[.bool false, .slice none 0 0] 110) := ⟨_, rfl⟩
  have hab := (Below.refl w.heap.size w).alloc (Nat.le_refl _) (.cells #[.bool false, .slice none 0 0] 110)
  rw [← hX] at hrow hab
  have hF := h.below hab
  obtain ⟨c0, c1, c2, c3, c4, c5, c6⟩ := h.cells
  have hR := hrow
  obtain ⟨L, hLL⟩ : ∃ L, L = ws.length := ⟨_, rfl⟩
  obtain ⟨P, hP⟩ : ∃ P, P = bl (od (wv ws)) := ⟨_, rfl⟩
  have HF := Lib.hid hF
  have HV := Lib.hid hv
  have HWS : Hid (cellsW ws = cellsW (wds (wv ws))) := Lib.hid (congrArg cellsW (wds_of hv.lt (by rw [nw_bl h0, htop]; omega)))
  have HMP := Lib.hid (fun (W : World) (hb : Below w.heap.size w W) => minPrec_one b p m a (k : Int) neg v ws W (h.below hb) (hv.below hb) h0 hl htop (hT.below hb))
  rw [← hP] at HMP ⊢
  have HAB := Lib.hid hab
  have HR := Lib.hid hR
  rw [← hLL] at hL hk hl ⊢
  have hne : ¬ b = w.heap.size := fun hc => by have := h.lt; omega
  have hne' : ¬ w.heap.size = b := fun hc => hne hc.symm
  have hPb : P ≤ 64000000 := by
    have h1 := bl_od h0
    rw [hP]; rw [htop, ← hLL] at h1; omega
  have t1 : decide ((k : Int) ≤ 0) = false := decide_eq_false (by omega)
  have hXs := hab.size
  have HLL := Lib.hid hLL
  clear h hv h0 htop hT hab hrow hF hR hP hLL
  go_enter Tryz.func88, Tryz.ntmps88
  go_upto_region 3 with fail
  rw [← hX]
  clear hX c0 c1 c2 c3 c4 c5 c6
  obtain ⟨c0, c1, c2, c3, c4, c5, c6⟩ := HF.out.cells
  have c3' : X.cell? ⟨b, 3, none⟩ = some (.int .u8 1) := c3
  clear c3
  go_wp2_with fail
  refine (makeAcc_any neg X).mono ?_
  rintro _ _ ⟨rfl, rfl⟩
  obtain ⟨ac, hac⟩ : ∃ ac : Int, ac = (if neg then 1 else -1) := ⟨_, rfl⟩
  rw [← hac]
  have HAC := Lib.hid hac
  clear hac
  go_wp2_with fail
  refine (HMP.out X HAB.out).mono ?_
  rintro _ _ ⟨rfl, n1, rfl⟩
  go_upto_if 53 with fail
  go_cut [6] (fun x wx => x = .int .i8 (accI neg (decide (P ≤ k))) ∧ X.drewN n1 = wx)
  case first =>
    by_cases hPk : P ≤ k
    · have q1 : decide (P ≤ k) = true := decide_eq_true hPk
      go_wp2_with fail
      go_meet
      exact ⟨by rw [q1]; rfl, rfl⟩
    · have q1 : decide (P ≤ k) = false := decide_eq_false hPk
      go_wp2_with fail
      go_meet
      exact ⟨by rw [q1, HAC.out]; rfl, rfl⟩
  case rest =>
    obtain ⟨rfl, rfl⟩ := hcut
    obtain ⟨A, hA⟩ : ∃ A, A = accI neg (decide (P ≤ k)) := ⟨_, rfl⟩
    rw [← hA]
    have HAA := Lib.hid hA
    clear hA HAC
    have hR : (X.drewN n1).heap[w.heap.size]? = some (.cells #[.bool false, .slice none 0 0] 110 (0, 0)) := HR.out
    have hF : FltR (X.drewN n1) b p m a 1 neg v (k : Int) := HF.out
    have hB1 : Below w.heap.size w (X.drewN n1) := undrewN' HAB.out
    obtain ⟨W, hW⟩ : ∃ W, W = X.drewN n1 := ⟨_, rfl⟩
    rw [← hW] at hR hF hB1 ⊢
    clear hW HR HF HMP HAB c0 c1 c2 c3' c4 c5 c6
    have r0 : W.cell? ⟨w.heap.size, 0, none⟩ = some (.bool false) := (row_at (i := 0) hR rfl).1
    have r1 : W.cell? ⟨w.heap.size, 1, none⟩ = some (.slice none 0 0) := (row_at (i := 1) hR rfl).1
    have z0 := frozen_of_row W w.heap.size 0 _ _ hR
    have z1 := frozen_of_row W w.heap.size 1 _ _ hR
    obtain ⟨c0, c1, c2, c3, c4, c5, c6⟩ := hF.cells
    have hWs := hB1.size
    have R1 := rowset (i := 0) (.bool neg) hR
    have hB2 := bset (i := 0) (u := .bool neg) hB1 (Nat.le_refl _)
    have R1c : (W.setCell ⟨w.heap.size, 0, none⟩ (.bool neg)).heap[w.heap.size]? = some (.cells #[.bool neg, .slice none 0 0] 110 (0, 0)) := R1
    have F1 : FltR (W.setCell ⟨w.heap.size, 0, none⟩ (.bool neg)) b p m a 1 neg v (k : Int) := (heap_setCell_other _ _ _ _ (by simpa using hne)).trans hF
    have s1 : (W.setCell ⟨w.heap.size, 0, none⟩ (.bool neg)).cell? ⟨w.heap.size, 1, none⟩ = some (.slice none 0 0) := (row_at (i := 1) R1c rfl).1
    obtain ⟨d0, d1, d2, d3, d4, d5, d6⟩ := F1.cells
    have HR1 := Lib.hid R1c
    have HB2 := Lib.hid hB2
    have hsz : w.heap.size ≤ (W.setCell ⟨w.heap.size, 0, none⟩ (.bool neg)).heap.size := hB2.size
    have fin : ∀ (nq : Nat) (w2 : World) (r : Value) (N : Nat), Own w2 (W.setCell ⟨w.heap.size, 0, none⟩ (.bool neg)).heap.size 116 r (cellsW (wds N)) → Below (W.setCell ⟨w.heap.size, 0, none⟩ (.bool neg)).heap.size ((W.setCell ⟨w.heap.size, 0, none⟩ (.bool neg)).drewN nq) w2 →
        w2.frozen? ⟨w.heap.size, 1, none⟩ = false ∧ w2.cell? ⟨w.heap.size, 1, none⟩ = some (.slice none 0 0) ∧ IntP (w2.setCell ⟨w.heap.size, 1, none⟩ r) w.heap.size w.heap.size neg N ∧ Below w.heap.size w (w2.setCell ⟨w.heap.size, 1, none⟩ r) := fun nq w2 r N ho hb => by
      have hrow2 : w2.heap[w.heap.size]? = some (.cells #[.bool neg, .slice none 0 0] 110 (0, 0)) := keep_row (undrewN hb) HR1.out
      refine ⟨frozen_of_row w2 _ 1 _ _ hrow2, (row_at (i := 1) hrow2 rfl).1, intP_of (v := r) (Nat.le_refl _) (rowset (i := 1) r hrow2) ((ho.mono hsz).away hrow2 (by decide) 1 r), bset (HB2.out.trans ((undrewN hb).mono hsz)) (Nat.le_refl _)⟩
    have FIN := Lib.hid fin
    have tk : decide (L * 64 < k) = false := decide_eq_false (by omega)
    have tk' : decide ((L : Int) * 64 < (k : Int)) = false := decide_eq_false (by omega)
    clear fin R1 R1c hB2 hB1 hR hF F1
    by_cases hkL : k < L * 64
    · have t2 : decide (k < L * 64) = true := decide_eq_true hkL
      have t2' : decide ((k : Int) < (L : Int) * 64) = true := decide_eq_true (by omega)
      have es : (L : Int) * 64 - (k : Int) = ((L * 64 - k : Nat) : Int) := by omega
      obtain ⟨s, hs⟩ : ∃ s, s = L * 64 - k := ⟨_, rfl⟩
      rw [← hs] at es
      have hs0 : 0 < s := by omega
      have hsl : s < 64 * L := by omega
      have HS := Lib.hid (show s = 64 * L - k by omega)
      clear hs hkL
      go_wp2_with fail
      (refine wp_region_hoist 12 (by kernel_rfl) (by kernel_rfl) ⟨fun _ _ _ h => (by first | exact (hQp _ _ _ h).elim | cases h.2.1 | (obtain ⟨_, h3, _⟩ := h.2; cases h3)), fun _ _ h => (by first | exact (hQo _ _ h).elim | cases h.1 | (obtain ⟨_, h3, _⟩ := h; cases h3))⟩ ?_; simp only [List.take_succ_cons, List.take_zero, List.drop_succ_cons, List.drop_zero]; (repeat (go_big_quiet_step (fail))); refine wpQuiet_nil ?_; rintro _ ⟨nq, rfl⟩)
      go_wp2_with fail
      refine (rsh_nil v ws s _ ((HV.out.below HB2.out).below (undrewN' (Below.refl _ _))) (by rw [← HLL.out]; exact hl) hs0 (by rw [← HLL.out]; exact hsl)).mono ?_
      rintro _ w2 ⟨r, rfl, ho, hb⟩
      have hSr := ho.isS
      obtain ⟨g1, g2, g3, g4⟩ := FIN.out nq w2 r _ ho hb
      have G3 := Lib.hid g3
      have G4 := Lib.hid g4
      clear g3 g4 ho hb
      go_wp2
      go_ret2
      refine ⟨w.heap.size, by rw [← HAA.out]; rfl, ?_, G4.out⟩
      rw [← HS.out]; exact G3.out
    · have t2 : decide (k < L * 64) = false := decide_eq_false hkL
      have t2' : decide ((k : Int) < (L : Int) * 64) = false := decide_eq_false (by omega)
      have HKE := Lib.hid (show 64 * L - k = 0 by omega)
      clear hkL
      go_wp2_with fail
      (refine wp_region_hoist 9 (by kernel_rfl) (by kernel_rfl) ⟨fun _ _ _ h => (by first | exact (hQp _ _ _ h).elim | cases h.2.1 | (obtain ⟨_, h3, _⟩ := h.2; cases h3)), fun _ _ h => (by first | exact (hQo _ _ h).elim | cases h.1 | (obtain ⟨_, h3, _⟩ := h; cases h3))⟩ ?_; simp only [List.take_succ_cons, List.take_zero, List.drop_succ_cons, List.drop_zero]; (repeat (go_big_quiet_step (fail))); refine wpQuiet_nil ?_; rintro _ ⟨nq, rfl⟩)
      go_wp2_with fail
      refine (set_nil v ws _ ((HV.out.below HB2.out).below (undrewN' (Below.refl _ _))) (by rw [← HLL.out]; omega)).mono ?_
      rintro _ w2 ⟨r, rfl, ho, hb⟩
      have hSr := ho.isS
      rw [HWS.out] at ho
      obtain ⟨g1, g2, g3, g4⟩ := FIN.out nq w2 r _ ho hb
      have G3 := Lib.hid g3
      have G4 := Lib.hid g4
      clear g3 g4 ho hb
      go_wp2
      go_ret2
      refine ⟨w.heap.size, by rw [← HAA.out]; rfl, ?_, G4.out⟩
      rw [HKE.out, Nat.pow_zero, Nat.div_one]; exact G3.out
section
variable {b p m f : Nat} {a e : Int} {neg : Bool} {v : Value} {w : World}
set_option maxRecDepth 100000 in
theorem fPrec (h : FltR w b p m a f neg v e) (hp : p ≤ 64000000) : Calls Tryz.prog 80 #[.pointer (some ⟨b, 0, none⟩)] w fun e' w' => e' = .returned (.int .u64 p) ∧ w = w' := by
  obtain ⟨c0, c1, c2, c3, c4, c5, c6⟩ := h.cells
  clear h
  go_enter Tryz.func80, Tryz.ntmps80
  go_wp2
  go_ret
  exact ⟨rfl, rfl⟩
set_option maxRecDepth 100000 in
theorem fMode (h : FltR w b p m a f neg v e) : Calls Tryz.prog 81 #[.pointer (some ⟨b, 0, none⟩)] w fun e' w' => e' = .returned (.int .u8 m) ∧ w = w' := by
  obtain ⟨c0, c1, c2, c3, c4, c5, c6⟩ := h.cells
  clear h
  go_enter Tryz.func81, Tryz.ntmps81
  go_wp2
  go_ret
  exact ⟨rfl, rfl⟩
set_option maxRecDepth 100000 in
theorem fAcc (h : FltR w b p m a f neg v e) : Calls Tryz.prog 98 #[.pointer (some ⟨b, 0, none⟩)] w fun e' w' => e' = .returned (.int .i8 a) ∧ w = w' := by
  obtain ⟨c0, c1, c2, c3, c4, c5, c6⟩ := h.cells
  clear h
  go_enter Tryz.func98, Tryz.ntmps98
  go_wp2
  go_ret
  exact ⟨rfl, rfl⟩
set_option maxRecDepth 100000 in
theorem fIsInf (h : FltR w b p m a f neg v e) : Calls Tryz.prog 83 #[.pointer (some ⟨b, 0, none⟩)] w fun e' w' => e' = .returned (.bool (decide (f = 2))) ∧ w = w' := by
  obtain ⟨c0, c1, c2, c3, c4, c5, c6⟩ := h.cells
  have t : ((f : Int) == 2) = decide (f = 2) := by
    by_cases hf : f = 2
    · rw [hf]; rfl
    · rw [decide_eq_false hf, beq_eq_false_iff_ne]; omega
  obtain ⟨B, hB⟩ : ∃ B, B = decide (f = 2) := ⟨_, rfl⟩
  rw [← hB] at t ⊢
  clear h hB
  go_enter Tryz.func83, Tryz.ntmps83
  go_wp2
  go_ret
  exact ⟨rfl, rfl⟩
end
set_option maxRecDepth 100000 in
set_option maxHeartbeats 1600000 in
theorem mantExp_one (b B c p0 m0 f0' p m : Nat) (a0 e0 a e : Int) (n0 neg : Bool) (v : Value) (ws : List Nat) (w : World) (h : FltR w b p0 m0 a0 f0' n0 (.slice none 0 0) e0) (hB : B ≤ b) (hx : FltR w c p m a 1 neg v e) (hbc : b ≠ c)
    {Bx : Nat} (ho : Own w Bx 116 v (cellsW ws)) (hd : ∀ d ∈ ws, d < 18446744073709551616) (hl : ws.length ≤ 1000000) (he1 : -2147483648 ≤ e) (he2 : e ≤ 2147483647) :
    Calls Tryz.prog 85 #[.pointer (some ⟨c, 0, none⟩), .pointer (some ⟨b, 0, none⟩)] w fun e' w' => e' = .returned (.int .i64 e) ∧ ∃ r, FltR w' b p m a 1 neg r 0 ∧ Own w' B 116 r (cellsW ws) ∧ Below B w w' := by
  obtain ⟨c0, c1, c2, c3, c4, c5, c6⟩ := hx.cells
  have c3' : w.cell? ⟨c, 3, none⟩ = some (.int .u8 1) := c3
  have HC := Lib.hid (copyF b B c p0 m0 f0' p m a0 e0 a e n0 neg v ws w h hB hx hbc ho hd hl)
  clear h hx ho hd c3
  go_enter Tryz.func85, Tryz.ntmps85
  go_wp2_with fail
  refine HC.out.mono ?_
  rintro _ w1 ⟨rfl, r, h1, h2, h3⟩
  obtain ⟨d0, d1, d2, d3, d4, d5, d6⟩ := h1.cells
  have d3' : w1.cell? ⟨b, 3, none⟩ = some (.int .u8 1) := d3
  obtain ⟨f0, f1, f2, f3, f4, f5, f6⟩ := h1.free
  have R := Lib.hid (h1.s6 0)
  have O := Lib.hid (h1.own h2 6 (.int .i32 (0 : Int)))
  have BB := Lib.hid (bset (i := 6) (u := .int .i32 (0 : Int)) h3 hB)
  clear h1 h2 h3 d3
  go_wp2
  go_ret
  exact ⟨rfl, r, R.out, O.out, BB.out⟩
def RealV (w : World) (z : Value) (p m f : Nat) (neg : Bool) (M : Nat) (X : Int) : Prop :=
  ∃ (v : Value) (E : Int) (zs : List Nat) (B : Nat), z = .agg #[.int .u64 p, .int .i64 m, .int .i64 f, .bool neg, v, .int .i64 E] ∧ Own w B 40 v (cellsW zs) ∧ (∀ d ∈ zs, d < 18446744073709551616) ∧ (f ≠ 1 → zs = [] ∧ E = 0) ∧ (f = 1 → zs = wds (od M) ∧ E = X + (tz M : Nat))
def WoU (ws : List Nat) (B k : Nat) (w : World) (v : Value) (wr : World) : Prop := Own wr B 40 v (cellsW (ws.take k)) ∧ Below B w wr
theorem WoU.step {ws : List Nat} {B k : Nat} {w w1 : World} {v1 : Value} (hk : k < ws.length) (h : Own w1 B 40 v1 (cellsW (ws.take k) ++ [.int .u64 ((ws.getD k 0 : Nat) : Int)])) (hb : Below B w w1) : WoU ws B (k + 1) w v1 w1 := by
  refine ⟨?_, hb⟩
  rw [cellsW_snoc] at h
  rw [List.take_succ_eq_append_getElem hk]
  simpa [List.getD_eq_getElem?_getD, List.getElem?_eq_getElem hk] using h
set_option maxRecDepth 100000 in
set_option maxHeartbeats 800000 in
theorem wordsOf_any (b o : Nat) (v : Value) (ws : List Nat) (w : World) (hc : w.cell? ⟨b, o + 1, none⟩ = some v) (hv : RW w v ws) (hl : ws.length ≤ 100000000) :
    Calls Tryz.prog 89 #[.pointer (some ⟨b, o, none⟩)] w fun e w' => ∃ r, e = .returned r ∧ Own w' w.heap.size 40 r (cellsW ws) ∧ Below w.heap.size w w' := by
  have hSv := hv.isS
  have hLv := hv.len
  obtain ⟨la, hla⟩ : ∃ la, la = ws.length := ⟨_, rfl⟩
  rw [← hla] at hLv hl
  have Hla := Lib.hid hla
  have Hv := Lib.hid hv
  clear hla hv
  go_enter Tryz.func89, Tryz.ntmps89
  go_wp2_with fail
  refine (intBits b o v w hc hSv).mono ?_
  rintro _ _ ⟨rfl, rfl⟩
  go_wp2
  go_loopw [3, 9] (fun v i wr => ∃ k : Nat, k ≤ la ∧ i = .int .i64 k ∧ WoU ws w.heap.size k w v wr) (fun _ i _ => la - (intOf i).toNat)
  case atStart => exact ⟨0, Nat.zero_le _, rfl, Own.nil _ _ _, Below.refl _ _⟩
  case round =>
    obtain ⟨i, hi, rfl, hO, hbl⟩ := hrel
    have hbz := hbl.size
    have hSo : IsS u3 := hO.isS
    have HO := Lib.hid hO
    clear hO
    by_cases hia : i < la
    · have ca := (Hv.out.below hbl).cell i (by rw [← Hla.out]; exact hia)
      obtain ⟨d, hd⟩ : ∃ d, d = ws.getD i 0 := ⟨_, rfl⟩
      rw [← hd] at ca
      have Hd := Lib.hid hd
      clear hd
      have hlk : (cellsW (ws.take i)).length = i := by rw [cellsW_length]; have := Hla.out; simp; omega
      have Hlk := Lib.hid hlk
      clear hlk
      go_wp2_with (at_builtin; refine wpList_append_O rfl _ _ _ _ rfl elemU w.heap.size _ _ rfl (HO.out.alloc _) _ rfl 1 [.int .u64 (d : Int)] (srcOne Tryz.underlying22 wr _ _) ?c3 ?c4 ?c5 ?_)
      case c3 => rw [Hlk.out]; unfold maxLen; omega
      case c4 => rw [Hlk.out]; omega
      case c5 => simp; omega
      rintro v1 w1 ho1 hb1 - - -
      have hs := WoU.step (by rw [← Hla.out]; exact hia) (by rw [← Hd.out]; exact ho1) ((hbl.alloc hbz _).trans hb1)
      have Hs := Lib.hid hs
      clear hs ho1
      go_wp2
      go_roundw
      case rel => exact ⟨i + 1, by omega, by go_num, Hs.out⟩
      case measure => simp [intOf]; omega
    · have hil : i = la := by omega
      subst hil
      have hfull : ws.take i = ws := List.take_of_length_le (by rw [Hla.out]; exact Nat.le_refl _)
      have ho := HO.out
      rw [hfull] at ho
      have Ho := Lib.hid ho
      clear hfull ho
      go_wp2
      go_ret
      exact ⟨_, rfl, Ho.out, hbl⟩
theorem row6_set {w : World} {k T : Nat} {a b c d e f x y z x' y' z' : Value} (h : w.heap[k]? = some (.cells #[a, b, c, d, e, f] T (0, 0))) :
    ((((((w.setCell ⟨k, 0, none⟩ x).setCell ⟨k, 1, none⟩ y).setCell ⟨k, 2, none⟩ z).setCell ⟨k, 3, none⟩ x').setCell ⟨k, 4, none⟩ y').setCell ⟨k, 5, none⟩ z').heap[k]? = some (.cells #[x, y, z, x', y', z'] T (0, 0)) :=
  rowset (i := 5) z' (rowset (i := 4) y' (rowset (i := 3) x' (rowset (i := 2) z (rowset (i := 1) y (rowset (i := 0) x h)))))
theorem row6 {w : World} {k T : Nat} {a b c d e f : Value} (h : w.heap[k]? = some (.cells #[a, b, c, d, e, f] T (0, 0))) :
    (w.cell? ⟨k, 0, none⟩ = some a ∧ w.cell? ⟨k, 1, none⟩ = some b ∧ w.cell? ⟨k, 2, none⟩ = some c ∧ w.cell? ⟨k, 3, none⟩ = some d ∧ w.cell? ⟨k, 4, none⟩ = some e ∧ w.cell? ⟨k, 5, none⟩ = some f) ∧
    (w.frozen? ⟨k, 0, none⟩ = false ∧ w.frozen? ⟨k, 1, none⟩ = false ∧ w.frozen? ⟨k, 2, none⟩ = false ∧ w.frozen? ⟨k, 3, none⟩ = false ∧ w.frozen? ⟨k, 4, none⟩ = false ∧ w.frozen? ⟨k, 5, none⟩ = false) :=
  ⟨⟨(row_at (i := 0) h rfl).1, (row_at (i := 1) h rfl).1, (row_at (i := 2) h rfl).1, (row_at (i := 3) h rfl).1, (row_at (i := 4) h rfl).1, (row_at (i := 5) h rfl).1⟩,
   ⟨(row_at (i := 0) h rfl).2, (row_at (i := 1) h rfl).2, (row_at (i := 2) h rfl).2, (row_at (i := 3) h rfl).2, (row_at (i := 4) h rfl).2, (row_at (i := 5) h rfl).2⟩⟩
theorem bset6 {W w : World} {B k : Nat} {x y z x' y' z' : Value} (h : Below B W w) (hk : B ≤ k) :
    Below B W ((((((w.setCell ⟨k, 0, none⟩ x).setCell ⟨k, 1, none⟩ y).setCell ⟨k, 2, none⟩ z).setCell ⟨k, 3, none⟩ x').setCell ⟨k, 4, none⟩ y').setCell ⟨k, 5, none⟩ z') :=
  bset (bset (bset (bset (bset (bset h hk) hk) hk) hk) hk) hk
theorem RW.nil (w : World) : RW w (.slice none 0 0) [] := ⟨⟨IsS.nil, rfl, fun i hi => by simp [ints] at hi⟩, fun d hd => by cases hd⟩
theorem heap6_other {w : World} {k j : Nat} {x y z x' y' z' : Value} (h : j ≠ k) :
    ((((((w.setCell ⟨k, 0, none⟩ x).setCell ⟨k, 1, none⟩ y).setCell ⟨k, 2, none⟩ z).setCell ⟨k, 3, none⟩ x').setCell ⟨k, 4, none⟩ y').setCell ⟨k, 5, none⟩ z').heap[j]? = w.heap[j]? := by
  rw [heap_setCell_other _ _ _ _ (by simpa using h), heap_setCell_other _ _ _ _ (by simpa using h), heap_setCell_other _ _ _ _ (by simpa using h), heap_setCell_other _ _ _ _ (by simpa using h), heap_setCell_other _ _ _ _ (by simpa using h), heap_setCell_other _ _ _ _ (by simpa using h)]
theorem realV_other (w : World) (p m f : Nat) (neg : Bool) (M : Nat) (X : Int) (hf : f ≠ 1) : RealV w (.agg #[.int .u64 p, .int .i64 m, .int .i64 f, .bool neg, .slice none 0 0, .int .i64 0]) p m f neg M X :=
  ⟨.slice none 0 0, 0, [], 0, rfl, Own.nil _ _ _, (fun d hd => by cases hd), fun _ => ⟨rfl, rfl⟩, fun h => absurd h hf⟩
set_option maxRecDepth 100000 in
set_option maxHeartbeats 3200000 in
theorem real_other (b p m f : Nat) (a e : Int) (neg : Bool) (v : Value) (w : World) (h : FltR w b p m a f neg v e) (hf : f = 0 ∨ f = 2) (hp : p ≤ 64000000) (hm : m ≤ 255) (M : Nat) (X : Int) :
    Calls Tryz.prog 47 #[.pointer (some ⟨b, 0, none⟩)] w fun e' w' => ∃ z, e' = .returned z ∧ RealV w' z p m f neg M X ∧ Below w.heap.size w w' := by
  have hab := (Below.refl w.heap.size w).alloc (Nat.le_refl _) (.cells #[.int .u64 0, .int .i64 0, .int .i64 0, .bool false, .slice none 0 0, .int .i64 0] 42)
  obtain ⟨Y, hY⟩ : ∃ Y, Y = w.alloc (.cells #[.int .u64 0, .int .i64 0, .int .i64 0, .bool false, .slice none 0 0, .int .i64 0] 42) := ⟨_, rfl⟩
  have hr1 : Y.heap[w.heap.size]? = some (.cells #[.int .u64 0, .int .i64 0, .int .i64 0, .bool false, .slice none 0 0, .int .i64 0] 42 (0, 0)) := by rw [hY]; exact box_row (Below.refl _ _)
  rw [← hY] at hab
  have hF := Lib.hid (h.below hab)
  have HR1 := Lib.hid hr1
  have HAB := Lib.hid hab
  have hYs : Y.heap.size = w.heap.size + 1 := by rw [hY]; simp
  have hlt := h.lt
  clear h hr1 hab
  go_enter Tryz.func47, Tryz.ntmps47
  go_upto_region 1 with fail
  rw [← hY]
  clear hY
  go_wp2_with fail
  refine (fPrec hF.out hp).mono ?_
  rintro _ _ ⟨rfl, rfl⟩
  go_wp2_with fail
  refine (fMode hF.out).mono ?_
  rintro _ _ ⟨rfl, rfl⟩
  go_wp2_with fail
  refine (fSignbit b p m f a e neg v Y hF.out).mono ?_
  rintro _ _ ⟨rfl, rfl⟩
  obtain ⟨Z, hZ⟩ : ∃ Z, Z = Y.alloc (.cells #[.int .u64 p, .int .i64 m, .int .i64 0, .bool neg, .slice none 0 0, .int .i64 0] 42) := ⟨_, rfl⟩
  have hb2 : Below Y.heap.size Y Z := by rw [hZ]; exact fbone _
  have hr2 : Z.heap[Y.heap.size]? = some (.cells #[.int .u64 p, .int .i64 m, .int .i64 0, .bool neg, .slice none 0 0, .int .i64 0] 42 (0, 0)) := by rw [hZ]; exact box_row (Below.refl _ _)
  have hFZ := Lib.hid (hF.out.below hb2)
  have hr1 := keep_row hb2 HR1.out
  have HB2 := Lib.hid (HAB.out.trans (hb2.mono HAB.out.size))
  go_upto_region 2 with fail
  rw [← hZ]
  clear hZ hb2
  obtain ⟨⟨x0, x1, x2, x3, x4, x5⟩, g0, g1, g2, g3, g4, g5⟩ := row6 hr1
  obtain ⟨⟨y0, y1, y2, y3, y4, y5⟩, k0, k1, k2, k3, k4, k5⟩ := row6 hr2
  have HZ1 := Lib.hid hr1
  have HZ2 := Lib.hid hr2
  clear hr1 hr2
  rw [hYs] at y0 y1 y2 y3 y4 y5 k0 k1 k2 k3 k4 k5 HZ2
  go_wp2_with fail
  refine (fIsInf hFZ.out).mono ?_
  rintro _ _ ⟨rfl, rfl⟩
  rcases hf with rfl | rfl
  · dsimp only
    rw [show decide (0 = 2) = false from rfl]
    go_wp2_with fail
    refine (fSign b p m 0 a e neg v Z hFZ.out).mono ?_
    rintro _ _ ⟨rfl, rfl⟩
    rw [show sgF 0 neg = 0 from rfl]
    go_wp2_with fail
    have HS := row6_set (x := .int .u64 (p : Int)) (y := .int .i64 (m : Int)) (z := .int .i64 0) (x' := .bool neg) (y' := .slice none 0 0) (z' := .int .i64 0) HZ1.out
    have HB := bset6 (x := .int .u64 (p : Int)) (y := .int .i64 (m : Int)) (z := .int .i64 0) (x' := .bool neg) (y' := .slice none 0 0) (z' := .int .i64 0) HB2.out (Nat.le_refl _)
    obtain ⟨⟨a0, a1, a2, a3, a4, a5⟩, -⟩ := row6 HS
    refine bodyPost_ret (v := .agg #[.int .u64 p, .int .i64 m, .int .i64 0, .bool neg, .slice none 0 0, .int .i64 0]) ?_ rfl ⟨_, rfl, realV_other _ p m _ neg M X (by decide), HB⟩
    simp [results, Tryz.results47, go_sem, a0, a1, a2, a3, a4, a5]
  · dsimp only
    rw [show decide (2 = 2) = true from rfl]
    have hq2 := rowset (i := 2) (.int .i64 2) HZ2.out
    have hq2' : (Z.setCell ⟨w.heap.size + 1, 2, none⟩ (.int .i64 2)).heap[w.heap.size + 1]? = some (.cells #[.int .u64 p, .int .i64 m, .int .i64 2, .bool neg, .slice none 0 0, .int .i64 0] 42 (0, 0)) := hq2
    have hq1 : (Z.setCell ⟨w.heap.size + 1, 2, none⟩ (.int .i64 2)).heap[w.heap.size]? = _ := (heap_setCell_other _ _ _ _ (by simp)).trans HZ1.out
    obtain ⟨⟨z0, z1, z2, z3, z4, z5⟩, -⟩ := row6 hq2'
    obtain ⟨⟨v0, v1, v2, v3, v4, v5⟩, h0, h1, h2, h3, h4, h5⟩ := row6 hq1
    have HQ1 := Lib.hid hq1
    have HBB := Lib.hid (bset (i := 2) (u := .int .i64 2) HB2.out (Nat.le_succ _))
    clear hq1 hq2 hq2'
    go_wp2_with fail
    have HS := row6_set (x := .int .u64 (p : Int)) (y := .int .i64 (m : Int)) (z := .int .i64 2) (x' := .bool neg) (y' := .slice none 0 0) (z' := .int .i64 0) HQ1.out
    have HB := bset6 (x := .int .u64 (p : Int)) (y := .int .i64 (m : Int)) (z := .int .i64 2) (x' := .bool neg) (y' := .slice none 0 0) (z' := .int .i64 0) HBB.out (Nat.le_refl _)
    obtain ⟨⟨a0, a1, a2, a3, a4, a5⟩, -⟩ := row6 HS
    refine bodyPost_ret (v := .agg #[.int .u64 p, .int .i64 m, .int .i64 2, .bool neg, .slice none 0 0, .int .i64 0]) ?_ rfl ⟨_, rfl, realV_other _ p m _ neg M X (by decide), HB⟩
    simp [results, Tryz.results47, go_sem, a0, a1, a2, a3, a4, a5]
set_option maxRecDepth 100000 in
set_option maxHeartbeats 6400000 in
theorem real_one (b p m : Nat) (a e : Int) (neg : Bool) (v : Value) (ws : List Nat) (w : World) {Bx : Nat} (h : FltR w b p m a 1 neg v e) (ho : Own w Bx 116 v (cellsW ws)) (hg : Good ws p) (hp0 : 0 < p) (hp : p ≤ 64000000) (hm : m ≤ 255) (M : Nat) (X : Int) (hM : 0 < M)
    (hq : deq (wv ws) (e - 64 * (ws.length : Int)) M X) (he1 : -2147000000 ≤ e) (he2 : e ≤ 2147000000) (hT : TabW w) :
    Calls Tryz.prog 47 #[.pointer (some ⟨b, 0, none⟩)] w fun e' w' => ∃ z, e' = .returned z ∧ RealV w' z p m 1 neg M X ∧ Below w.heap.size w w' := by
  have hab := (Below.refl w.heap.size w).alloc (Nat.le_refl _) (.cells #[.int .u64 0, .int .i64 0, .int .i64 0, .bool false, .slice none 0 0, .int .i64 0] 42)
  obtain ⟨Y, hY⟩ : ∃ Y, Y = w.alloc (.cells #[.int .u64 0, .int .i64 0, .int .i64 0, .bool false, .slice none 0 0, .int .i64 0] 42) := ⟨_, rfl⟩
  have hr1 : Y.heap[w.heap.size]? = some (.cells #[.int .u64 0, .int .i64 0, .int .i64 0, .bool false, .slice none 0 0, .int .i64 0] 42 (0, 0)) := by rw [hY]; exact box_row (Below.refl _ _)
  rw [← hY] at hab
  have hF := Lib.hid (h.below hab)
  have HR1 := Lib.hid hr1
  have HAB := Lib.hid hab
  have hYs : Y.heap.size = w.heap.size + 1 := by rw [hY]; simp
  have hlt := h.lt
  have hbl := hg.bl
  obtain ⟨hl0, hl, hd, htop, hfit⟩ := hg
  have hw0 := hq.symm.pos hM
  have hod := hq.od hw0
  have hbo := bl_od hw0
  have HO := Lib.hid (ho.below hab)
  have HT := Lib.hid (hT.below hab)
  have HD := Lib.hid hd
  have HF := Lib.hid hfit
  have HBL := Lib.hid hbl
  obtain ⟨N, hN⟩ : ∃ N, N = wv ws := ⟨_, rfl⟩
  obtain ⟨P, hP⟩ : ∃ P, P = bl (od (wv ws)) := ⟨_, rfl⟩
  obtain ⟨L, hL⟩ : ∃ L, L = ws.length := ⟨_, rfl⟩
  have hP0 : 0 < P := by rw [hP]; exact bl_pos (od_pos hw0)
  have hPL : P ≤ 64 * L := by rw [hP, hL, ← hbl]; omega
  have HE : Hid (e - (P : Int) = X + (tz M : Nat)) := Lib.hid (by have := hod.2; rw [hbl] at hbo; omega)
  have HOD : Hid (wv ws / 2 ^ (64 * ws.length - P) = od M) := Lib.hid (by
    rw [← hod.1, show 64 * ws.length - P = tz (wv ws) by rw [hbl] at hbo; omega]; rfl)
  have HW0 := Lib.hid hw0
  have HP := Lib.hid hP
  have HL := Lib.hid hL
  rw [← hL] at hl0 hl
  have hPb : P ≤ 64000000 := by omega
  clear h hr1 hab ho hT hd htop hfit hq hbl hod hbo hN hP hL hw0
  go_enter Tryz.func47, Tryz.ntmps47
  go_upto_region 1 with fail
  rw [← hY]
  clear hY
  go_wp2_with fail
  refine (fPrec hF.out hp).mono ?_
  rintro _ _ ⟨rfl, rfl⟩
  go_wp2_with fail
  refine (fMode hF.out).mono ?_
  rintro _ _ ⟨rfl, rfl⟩
  go_wp2_with fail
  refine (fSignbit b p m 1 a e neg v Y hF.out).mono ?_
  rintro _ _ ⟨rfl, rfl⟩
  obtain ⟨Z, hZ⟩ : ∃ Z, Z = Y.alloc (.cells #[.int .u64 p, .int .i64 m, .int .i64 0, .bool neg, .slice none 0 0, .int .i64 0] 42) := ⟨_, rfl⟩
  have hb2 : Below Y.heap.size Y Z := by rw [hZ]; exact fbone _
  have hr2 : Z.heap[Y.heap.size]? = some (.cells #[.int .u64 p, .int .i64 m, .int .i64 0, .bool neg, .slice none 0 0, .int .i64 0] 42 (0, 0)) := by rw [hZ]; exact box_row (Below.refl _ _)
  have hFZ := Lib.hid (hF.out.below hb2)
  have HZ1 := Lib.hid (keep_row hb2 HR1.out)
  have HB2 := Lib.hid (HAB.out.trans (hb2.mono HAB.out.size))
  have HO2 := Lib.hid (HO.out.below hb2)
  have HT2 := Lib.hid (HT.out.below hb2)
  go_upto_region 2 with fail
  rw [← hZ]
  rw [hYs] at hr2
  have HZ2 := Lib.hid hr2
  have hZs : w.heap.size + 2 ≤ Z.heap.size := by rw [hZ]; simp; omega
  clear hZ hb2 hr2 HO HT HR1 hF HAB
  go_wp2_with fail
  refine (fIsInf hFZ.out).mono ?_
  rintro _ _ ⟨rfl, rfl⟩
  dsimp only
  rw [show decide (1 = 2) = false from rfl]
  go_wp2_with fail
  refine (fSign b p m 1 a e neg v Z hFZ.out).mono ?_
  rintro _ _ ⟨rfl, rfl⟩
  obtain ⟨sg, hsg⟩ : ∃ s, s = sgF 1 neg := ⟨_, rfl⟩
  have q1 : (sg != 0) = true := by rw [hsg]; cases neg <;> rfl
  rw [← hsg]
  clear hsg
  have hb3 : Below Z.heap.size Z (Z.alloc newF) := fbone _
  have HF3 := Lib.hid (hFZ.out.below hb3)
  have HO3 := Lib.hid (HO2.out.below hb3)
  have HT3 := Lib.hid (HT2.out.below hb3)
  have HN3 := Lib.hid (newF_row Z)
  have HB3 := Lib.hid hb3
  have hne3 : Z.heap.size ≠ b := by have := hFZ.out.lt; omega
  clear hb3
  go_wp2_with fail
  refine (mantExp_one Z.heap.size Z.heap.size b 0 0 0 p m 0 0 a e false neg v ws (Z.alloc newF) HN3.out (Nat.le_refl _) HF3.out hne3 HO3.out HD.out (by rw [← HL.out]; exact hl) (by omega) (by omega)).mono ?_
  rintro _ W4 ⟨rfl, r4, h4, o4, b4⟩
  have hb4 := HB3.out.trans b4
  have HF4 := Lib.hid (hFZ.out.below hb4)
  have HT4 := Lib.hid (HT2.out.below hb4)
  have HV4 := Lib.hid ((HO2.out.below hb4).rw' HD.out)
  have H4 := Lib.hid h4
  have O4 := Lib.hid o4
  have HB4 := Lib.hid hb4
  clear h4 o4 b4 hb4
  go_wp2_with fail
  refine (minPrec_one b p m a e neg v ws W4 HF4.out HV4.out HW0.out (by rw [← HL.out]; exact hl) HBL.out HT4.out).mono ?_
  rintro _ _ ⟨rfl, n5, rfl⟩
  rw [← HP.out]
  have H5 : FltR (W4.drewN n5) Z.heap.size p m a 1 neg r4 0 := H4.out
  have O5 : Own (W4.drewN n5) Z.heap.size 116 r4 (cellsW ws) := O4.out.drewN n5
  have B5 : Below Z.heap.size Z (W4.drewN n5) := undrewN' HB4.out
  have T5 : TabW (W4.drewN n5) := HT4.out
  obtain ⟨W5, hW5⟩ : ∃ W5, W5 = W4.drewN n5 := ⟨_, rfl⟩
  rw [← hW5] at H5 O5 B5 T5
  dsimp only
  rw [← hW5]
  clear hW5 H4 O4 HB4 HT4 HF4 HV4
  have b6 : Below W5.heap.size W5 (W5.alloc newF) := fbone _
  have H6 := Lib.hid (H5.below b6)
  have O6 := Lib.hid (O5.below b6)
  have B6 := Lib.hid (B5.trans (b6.mono B5.size))
  have T5h := Lib.hid T5
  have B5h := Lib.hid B5
  have N6 := Lib.hid (newF_row W5)
  have hne6 : W5.heap.size ≠ Z.heap.size := by have := H5.lt; omega
  have hs5 := B5.size
  clear H5 O5 B5 T5 b6
  go_wp2_with fail
  refine (setMantExp_exact W5.heap.size W5.heap.size Z.heap.size 0 0 0 p m 0 0 a 0 (P : Int) false neg r4 ws (W5.alloc newF) N6.out (Nat.le_refl _) H6.out hne6 O6.out HD.out HF.out (by rw [← HL.out]; exact hl0) (by rw [← HL.out]; exact hl) hp0 hp (by omega) (by omega) (by omega) (by omega)).mono ?_
  rintro _ W7 ⟨rfl, r7, h7, o7, b7⟩
  rw [Int.zero_add] at h7
  have b57 : Below W5.heap.size W5 W7 := (fbone (W := W5) newF).trans b7
  have H7 := Lib.hid h7
  have V7 := Lib.hid (o7.rw' HD.out)
  have T7 := Lib.hid (T5h.out.below b57)
  have B7 := Lib.hid (B5h.out.trans (b57.mono hs5))
  clear h7 o7 b7 b57
  go_wp2_with fail
  refine (floatInt_le W5.heap.size p m P 0 neg r7 ws W7 H7.out V7.out HW0.out (by rw [← HL.out]; exact hl) HBL.out T7.out hP0 (by rw [← HL.out]; exact hPL)).mono ?_
  rintro _ W8 ⟨g, rfl, hI, b8⟩
  rw [HOD.out] at hI
  obtain ⟨v8, hg8, row8, o8⟩ := hI
  have d1 : W8.cell? ⟨g, 0 + 1, none⟩ = some v8 := (row_at (i := 1) row8 rfl).1
  have V8 := Lib.hid (o8.rw' (wds_all _))
  have B8 := Lib.hid (B7.out.trans (b8.mono B7.out.size))
  have hN8 : Hid ((wds (od M)).length ≤ 100000000) := Lib.hid (by
    rw [wds_length, nw_bl (od_pos hM)]
    have h1 := HOD.out
    have h2 : bl (od M) ≤ bl (wv ws) := by rw [← h1]; exact bl_mono (Nat.div_le_self _ _)
    have := HBL.out; have := HL.out; omega)
  clear hg8 row8 o8 b8
  go_wp2_with fail
  refine (wordsOf_any g 0 v8 (wds (od M)) W8 d1 V8.out hN8.out).mono ?_
  rintro _ W9 ⟨r9, rfl, o9, b9⟩
  have hS9 := o9.isS
  have B9 := Lib.hid (B8.out.trans (b9.mono B8.out.size))
  have q1 := keep_row B9.out HZ1.out
  have q2 := keep_row B9.out HZ2.out
  have O9 := Lib.hid o9
  have BW9 := Lib.hid (HB2.out.trans (B9.out.mono (by omega)))
  obtain ⟨⟨x0, x1, x2, x3, x4, x5⟩, g0, g1, g2, g3, g4, g5⟩ := row6 q1
  obtain ⟨⟨y0, y1, y2, y3, y4, y5⟩, k0, k1, k2, k3, k4, k5⟩ := row6 q2
  have S2 := rowset (i := 5) (.int .i64 (e - (P : Int))) (rowset (i := 4) r9 (rowset (i := 2) (.int .i64 1) q2))
  have S2' : (((W9.setCell ⟨w.heap.size + 1, 2, none⟩ (.int .i64 1)).setCell ⟨w.heap.size + 1, 4, none⟩ r9).setCell ⟨w.heap.size + 1, 5, none⟩ (.int .i64 (e - (P : Int)))).heap[w.heap.size + 1]? = some (.cells #[.int .u64 p, .int .i64 m, .int .i64 1, .bool neg, r9, .int .i64 (e - (P : Int))] 42 (0, 0)) := S2
  have S1 : (((W9.setCell ⟨w.heap.size + 1, 2, none⟩ (.int .i64 1)).setCell ⟨w.heap.size + 1, 4, none⟩ r9).setCell ⟨w.heap.size + 1, 5, none⟩ (.int .i64 (e - (P : Int)))).heap[w.heap.size]? = some (.cells #[.int .u64 0, .int .i64 0, .int .i64 0, .bool false, .slice none 0 0, .int .i64 0] 42 (0, 0)) := by
    rw [heap_setCell_other _ _ _ _ (by simp), heap_setCell_other _ _ _ _ (by simp), heap_setCell_other _ _ _ _ (by simp)]; exact q1
  have OS : Own (((W9.setCell ⟨w.heap.size + 1, 2, none⟩ (.int .i64 1)).setCell ⟨w.heap.size + 1, 4, none⟩ r9).setCell ⟨w.heap.size + 1, 5, none⟩ (.int .i64 (e - (P : Int)))) W8.heap.size 40 r9 (cellsW (wds (od M))) :=
    ((o9.away q2 (by decide) 2 _).away (rowset (i := 2) (.int .i64 1) q2) (by decide) 4 _).away (rowset (i := 4) r9 (rowset (i := 2) (.int .i64 1) q2)) (by decide) 5 _
  have BS : Below w.heap.size w (((W9.setCell ⟨w.heap.size + 1, 2, none⟩ (.int .i64 1)).setCell ⟨w.heap.size + 1, 4, none⟩ r9).setCell ⟨w.heap.size + 1, 5, none⟩ (.int .i64 (e - (P : Int)))) := bset (bset (bset BW9.out (Nat.le_succ _)) (Nat.le_succ _)) (Nat.le_succ _)
  obtain ⟨E, hE⟩ : ∃ E, E = e - (P : Int) := ⟨_, rfl⟩
  rw [← hE] at S2' S1 OS BS
  have hE2 : e - (P : Int) = E := hE.symm
  have HEE := Lib.hid hE
  obtain ⟨⟨z0, z1, z2, z3, z4, z5⟩, -⟩ := row6 S2'
  obtain ⟨⟨v0, v1, v2, v3, v4, v5⟩, h0, h1, h2, h3, h4, h5⟩ := row6 S1
  have HS1 := Lib.hid S1
  have HOS := Lib.hid OS
  have HBS := Lib.hid BS
  clear S1 S2 S2' OS BS q1 q2 hE o9 b9 d1
  go_wp2_with fail
  have HS := row6_set (x := .int .u64 (p : Int)) (y := .int .i64 (m : Int)) (z := .int .i64 1) (x' := .bool neg) (y' := r9) (z' := .int .i64 E) HS1.out
  have HB := bset6 (x := .int .u64 (p : Int)) (y := .int .i64 (m : Int)) (z := .int .i64 1) (x' := .bool neg) (y' := r9) (z' := .int .i64 E) HBS.out (Nat.le_refl _)
  obtain ⟨⟨a0, a1, a2, a3, a4, a5⟩, -⟩ := row6 HS
  refine bodyPost_ret (v := .agg #[.int .u64 p, .int .i64 m, .int .i64 1, .bool neg, r9, .int .i64 E]) ?_ rfl ⟨_, rfl, ⟨_, _, _, W8.heap.size, rfl, ?_, wds_all _, fun h => absurd rfl h, fun _ => ⟨rfl, by rw [HEE.out, HE.out]⟩⟩, HB⟩
  · simp [results, Tryz.results47, go_sem, a0, a1, a2, a3, a4, a5]
  · exact HOS.out.same fun hc => by
      have hne : sBlk r9 ≠ w.heap.size := HOS.out.ne_row HS1.out (by decide) hc
      exact heap6_other hne
def ShrRel (Y B k : Nat) (w : World) (v : Value) (wr : World) : Prop :=
  ∃ ds : List Nat, Own wr B 3 v (cellsN ds) ∧ (∀ d ∈ ds, d < 65536) ∧ ds.length = k ∧ val ds = Y % 65536 ^ k ∧ Below B w wr
theorem ShrRel.step {Y B k r : Nat} {w w1 : World} {v1 : Value} {ds : List Nat} (hd : ∀ d ∈ ds, d < 65536) (hdl : ds.length = k) (hv : val ds = Y % 65536 ^ k) (hr : r = dig Y k)
    (ho : Own w1 B 3 v1 (cellsN ds ++ [.int .i64 (r : Int)])) (hb : Below B w w1) : ShrRel Y B (k + 1) w v1 w1 := by
  rw [cellsN_snoc] at ho
  refine ⟨_, ho, ?_, by simp [hdl], ?_, hb⟩
  · intro z hz
    rcases List.mem_append.1 hz with h | h
    · exact hd z h
    · rw [List.mem_singleton.1 h, hr]; exact dig_lt _ _
  · rw [val_snoc, hdl, mod_succ, hv, hr]
theorem bl_two (x n : Nat) : bl (x * 2 ^ n) ≤ bl x + n := bl_le (by
  rw [Nat.pow_add]; exact Nat.mul_lt_mul_of_pos_right (lt_bl x) (Nat.two_pow_pos n))
theorem wrap_i64_id {a : Int} (h1 : -9223372036854775808 ≤ a) (h2 : a ≤ 9223372036854775807) : IntKind.i64.wrap a = a := by rw [IntKind.wrap_i64]; omega
def ctU (m : Nat) (neg : Bool) (x k : Nat) : Bool := awy neg (decide (x / 2 ^ k % 2 = 1)) (lef (x % 2 ^ k) (2 ^ k) 0) m
def ctQ (m : Nat) (neg : Bool) (x k : Nat) : Nat := x / 2 ^ k + if ctU m neg x k then 1 else 0
def ctA (m : Nat) (neg : Bool) (x k : Nat) : Int := if lef (x % 2 ^ k) (2 ^ k) 0 = 0 then 0 else if ctU m neg x k != neg then 1 else -1
theorem ctQ_zero (m : Nat) (neg : Bool) (x : Nat) : ctQ m neg x 0 = x ∧ ctA m neg x 0 = 0 := by
  have h : lef (x % 2 ^ 0) (2 ^ 0) 0 = 0 := by rw [Nat.pow_zero, Nat.mod_one]; exact lef_exact _
  refine ⟨?_, by unfold ctA; rw [if_pos h]⟩
  unfold ctQ ctU; rw [h, awy_zero]; simp
def Told (w : World) (z : Value) (p m : Nat) (n : Bool) (x : Nat) (e : Int) : Prop :=
  ∃ (f : Nat) (ng : Bool) (v : Value) (E : Int) (zs : List Nat), z = .agg #[.int .u64 p, .int .i64 m, .int .i64 f, .bool ng, v, .int .i64 E] ∧ RW w v zs ∧
    (x = 0 → f = 0 ∧ zs = [] ∧ E = 0) ∧ (x ≠ 0 → f = 1 ∧ ng = n ∧ zs = wds (od x) ∧ E = e + (tz x : Nat))
theorem Told.below {w w' : World} {z : Value} {p m x : Nat} {n : Bool} {e : Int} (h : Told w z p m n x e) (hb : Below w.heap.size w w') : Told w' z p m n x e := by
  obtain ⟨f, ng, v, E, zs, h1, h2, h3, h4⟩ := h
  exact ⟨f, ng, v, E, zs, h1, h2.below hb, h3, h4⟩
theorem Told.form {w : World} {z : Value} {p m x : Nat} {n : Bool} {e : Int} (h : Told w z p m n x e) : ∃ (f : Nat) (ng : Bool) (v : Value) (E : Int), z = .agg #[.int .u64 p, .int .i64 m, .int .i64 f, .bool ng, v, .int .i64 E] ∧ IsS v := by
  obtain ⟨f, ng, v, E, zs, h1, h2, -, -⟩ := h
  exact ⟨f, ng, v, E, h1, h2.isS⟩
theorem rA_bd (p m : Nat) (neg : Bool) (s M : Nat) : -1 ≤ rA p m neg s M ∧ rA p m neg s M ≤ 1 := by
  unfold rA; repeat' split
  all_goals omega
theorem rk_le (p x : Nat) : rk p x ≤ bl x := by unfold rk; omega
theorem bl_rQ (p m : Nat) (neg : Bool) (s x : Nat) : bl (rQ p m neg s x) ≤ bl x + 1 := by
  refine bl_le ?_
  have h1 := lt_bl x
  have h2 : rQ p m neg s x ≤ x + 1 := by unfold rQ; have := Nat.div_le_self x (2 ^ rk p x); split <;> omega
  rw [Nat.pow_succ]
  have := Nat.two_pow_pos (bl x)
  omega
theorem RealV.below {w w' : World} {z : Value} {p m f M : Nat} {neg : Bool} {X : Int} (h : RealV w z p m f neg M X) (hb : Below w.heap.size w w') : RealV w' z p m f neg M X := by
  obtain ⟨v, E, zs, B, h1, h2, hd, h3, h4⟩ := h
  exact ⟨v, E, zs, B, h1, h2.below hb, hd, h3, h4⟩
theorem RealV.told {w : World} {z : Value} {p m M x : Nat} {neg : Bool} {X e : Int} (h : RealV w z p m 1 neg M X) (hM : 0 < M) (hq : deq M X x e) : Told w z p m neg x e := by
  obtain ⟨v, E, zs, B, h1, h2', hd, -, h4⟩ := h
  have h2 := h2'.rw' hd
  obtain ⟨h5, h6⟩ := h4 rfl
  have hx := hq.pos hM
  obtain ⟨k1, k2⟩ := hq.od hM
  exact ⟨1, neg, v, E, zs, h1, h2, fun h => by omega, fun _ => ⟨rfl, rfl, by rw [h5, k1], by rw [h6, k2]⟩⟩
theorem RealV.told0 {w : World} {z : Value} {p m M : Nat} {neg n : Bool} {X e : Int} (h : RealV w z p m 0 neg M X) : Told w z p m n 0 e := by
  obtain ⟨v, E, zs, B, h1, h2', hd, h3, -⟩ := h
  have h2 := h2'.rw' hd
  obtain ⟨h5, h6⟩ := h3 (by decide)
  exact ⟨0, neg, v, E, zs, h1, h2, fun _ => ⟨rfl, h5, h6⟩, fun h => absurd rfl h⟩
theorem FVal.form {w : World} {B b p m f M : Nat} {a : Int} {neg : Bool} {X : Int} (h : FVal w B b p m a f neg M X) : ∃ v e, FltR w b p m a f neg v e := by
  obtain ⟨v, e, h, -⟩ := h; exact ⟨v, e, h⟩
theorem implReal (B b p m f : Nat) (a : Int) (neg : Bool) (M : Nat) (X : Int) (w : World) (h : FVal w B b p m a f neg M X) (hf : f ≤ 2) (hp : p ≤ 64000000) (hm : m ≤ 255) (hp0 : f = 1 → 0 < p) (hX : f = 1 → -2140000000 ≤ X ∧ X + bl M ≤ 2140000000) (hT : TabW w) :
    Calls Tryz.prog 47 #[.pointer (some ⟨b, 0, none⟩)] w fun e' w' => ∃ z, e' = .returned z ∧ RealV w' z p m f neg M X ∧ Below w.heap.size w w' := by
  obtain ⟨v, e, h1, h2⟩ := h
  by_cases h3 : f = 1
  · subst h3
    obtain ⟨hM, ws, ho, hg, hq⟩ := h2 rfl
    have h0 := hq.symm.pos hM
    have hb := hq.bl h0
    rw [hg.bl] at hb
    have := hX rfl
    exact real_one b p m a e neg v ws w h1 ho hg (hp0 rfl) hp hm M X hM hq (by omega) (by omega) hT
  · exact real_other b p m f a e neg v w h1 (by omega) hp hm M X
set_option maxRecDepth 100000 in
set_option maxHeartbeats 1600000 in
theorem implBoth (B b p m f : Nat) (a : Int) (neg : Bool) (M : Nat) (X : Int) (w : World) (h : FVal w B b p m a f neg M X) (hf : f ≤ 2) (hp : p ≤ 64000000) (hm : m ≤ 255) (hp0 : f = 1 → 0 < p) (hX : f = 1 → -2140000000 ≤ X ∧ X + bl M ≤ 2140000000) (hT : TabW w) (ha : -1 ≤ a ∧ a ≤ 1) :
    Calls Tryz.prog 56 #[.pointer (some ⟨b, 0, none⟩)] w fun e' w' => ∃ z, e' = .returned (.tuple #[z, .int .i64 a]) ∧ RealV w' z p m f neg M X ∧ Below w.heap.size w w' := by
  have hab := (Below.refl w.heap.size w).alloc (Nat.le_refl _) (.cells #[.int .u64 0, .int .i64 0, .int .i64 0, .bool false, .slice none 0 0, .int .i64 0] 42)
  obtain ⟨Y, hY⟩ : ∃ Y, Y = w.alloc (.cells #[.int .u64 0, .int .i64 0, .int .i64 0, .bool false, .slice none 0 0, .int .i64 0] 42) := ⟨_, rfl⟩
  have hr1 : Y.heap[w.heap.size]? = some (.cells #[.int .u64 0, .int .i64 0, .int .i64 0, .bool false, .slice none 0 0, .int .i64 0] 42 (0, 0)) := by rw [hY]; exact box_row (Below.refl _ _)
  rw [← hY] at hab
  have HF := Lib.hid (h.below hab)
  have HR := Lib.hid (implReal B b p m f a neg M X Y (h.below hab) hf hp hm hp0 hX (hT.below hab))
  have HR1 := Lib.hid hr1
  have HAB := Lib.hid hab
  clear h hr1 hT hX hab hp0
  go_enter Tryz.func56, Tryz.ntmps56
  go_upto_region 1 with fail
  rw [← hY]
  clear hY
  go_wp2_with fail
  refine HR.out.mono ?_
  rintro _ w1 ⟨z, rfl, hz, hb1⟩
  obtain ⟨v, e, hv⟩ := (HF.out.below hb1).form
  have HV := Lib.hid hv
  have q1 := keep_row hb1 HR1.out
  have B1 := Lib.hid (HAB.out.trans (hb1.mono HAB.out.size))
  obtain ⟨v', E, zs, Bz, rfl, h2, hd, h3, h4⟩ := hz
  have hSv := h2.isS
  have H2 := Lib.hid h2
  have H34 := Lib.hid (And.intro hd (And.intro h3 h4))
  have HQ1 := Lib.hid q1
  obtain ⟨⟨x0, x1, x2, x3, x4, x5⟩, g0, g1, g2, g3, g4, g5⟩ := row6 q1
  clear hv hb1 q1 h2 h3 h4 hd
  go_wp2_with fail
  refine (fAcc HV.out).mono ?_
  rintro _ _ ⟨rfl, rfl⟩
  go_wp2_with fail
  have HS := row6_set (x := .int .u64 (p : Int)) (y := .int .i64 (m : Int)) (z := .int .i64 (f : Int)) (x' := .bool neg) (y' := v') (z' := .int .i64 E) HQ1.out
  have HB := bset6 (x := .int .u64 (p : Int)) (y := .int .i64 (m : Int)) (z := .int .i64 (f : Int)) (x' := .bool neg) (y' := v') (z' := .int .i64 E) B1.out (Nat.le_refl _)
  obtain ⟨⟨a0, a1, a2, a3, a4, a5⟩, -⟩ := row6 HS
  refine bodyPost_ret (v := .tuple #[.agg #[.int .u64 p, .int .i64 m, .int .i64 f, .bool neg, v', .int .i64 E], .int .i64 a]) ?_ rfl ⟨_, rfl, ⟨_, _, _, Bz, rfl, ?_, H34.out.1, H34.out.2⟩, HB⟩
  · simp [results, Tryz.results56, go_sem, a0, a1, a2, a3, a4, a5]
  · exact H2.out.same fun hc => by
      have hne : sBlk v' ≠ w.heap.size := H2.out.ne_row HQ1.out (by decide) hc
      exact heap6_other hne
theorem FloatAt.below {w w' : World} {B g p m f M : Nat} {neg : Bool} {e : Int} (h : FloatAt w B g p m f neg M e) (hb : Below w.heap.size w w') : FloatAt w' B g p m f neg M e := by
  obtain ⟨h1, r, x, h2, h3⟩ := h
  exact ⟨h1, r, x, h2.below hb, fun hf => ⟨(h3 hf).1, (h3 hf).2.below hb⟩⟩
theorem topN_lt {M : Nat} : ∀ d ∈ topN M, d < 18446744073709551616 := wdsN_lt
theorem RealOk.form {P E p m f : Nat} {ws : List Nat} {e : Int} (h : RealOk P E p m f ws e) : f ≤ 2 := by
  obtain ⟨_, _, _, h | h | ⟨h, _⟩⟩ := h <;> omega
theorem RealOk.len {P E p m f : Nat} {ws : List Nat} {e : Int} (h : RealOk P E p m f ws e) (hf : f = 1) : ws.length ≤ 1000000 := by
  obtain ⟨_, _, _, h | h | h⟩ := h
  · omega
  · omega
  · exact h.2.2.2.1
def sI (neg : Bool) (n : Nat) : Int := if neg then -(n : Int) else n
theorem mul_two_lt {M1 M2 a b : Nat} (h2 : 0 < M2) (h : bl M1 + a < bl M2 + b) : M1 * 2 ^ a < M2 * 2 ^ b := by
  have hp := bl_pos h2
  have k1 : M1 * 2 ^ a < 2 ^ bl M1 * 2 ^ a := Nat.mul_lt_mul_of_pos_right (lt_bl M1) (Nat.two_pow_pos a)
  have k2 : 2 ^ (bl M2 - 1) * 2 ^ b ≤ M2 * 2 ^ b := Nat.mul_le_mul_right _ (bl_ge h2)
  rw [← Nat.pow_add] at k1 k2
  have k3 : 2 ^ (bl M1 + a) ≤ 2 ^ (bl M2 - 1 + b) := Nat.pow_le_pow_right (by decide) (by omega)
  omega
theorem topV_topN {M n : Nat} (h : 0 < M) : topV (topN M) n = M * 2 ^ (64 * nw M - bl M + 64 * n) := by
  unfold topV
  rw [topN_wv h, show (18446744073709551616 : Nat) = 2 ^ 64 from rfl, ← Nat.pow_mul, Nat.mul_assoc, ← Nat.pow_add]
theorem ucmp_real {M1 M2 a b : Nat} {e1 e2 e : Int} (h1 : 0 < M1) (h2 : 0 < M2) (ha : e1 = e + a) (hb : e2 = e + b) :
    ucmpV ((bl M1 : Nat) + e1) ((bl M2 : Nat) + e2) (topN M1) (topN M2) = cmpN (M1 * 2 ^ a) (M2 * 2 ^ b) := by
  subst ha hb
  rcases Nat.lt_trichotomy (bl M1 + a) (bl M2 + b) with h | h | h
  · rw [cmpN_lt (mul_two_lt h2 h)]; unfold ucmpV; rw [if_pos (by omega)]
  · rw [show ((bl M2 : Nat) : Int) + (e + b) = ((bl M1 : Nat) : Int) + (e + a) by omega, ucmpV_eq, topV_topN h1, topV_topN h2, topN_length, topN_length]
    have n1 := nw_bl h1
    have n2 := nw_bl h2
    rw [← cmpN_mul _ _ (Nat.two_pow_pos a), ← cmpN_mul (M1 * 2 ^ a) _ (Nat.two_pow_pos (64 * nw M1 - bl M1 + 64 * nw M2))]
    congr 1
    · rw [Nat.mul_assoc, Nat.mul_assoc, Nat.mul_comm (2 ^ a)]
    · rw [Nat.mul_assoc, Nat.mul_assoc, ← Nat.pow_add, ← Nat.pow_add]
      congr 2
      omega
  · rw [cmpN_gt (mul_two_lt h1 h)]; unfold ucmpV; rw [if_neg (by omega), if_pos (by omega)]
theorem ks6R {X : World} {k t i : Nat} {a b c d e f u : Value} (hk : t ≠ k)
    (h : X.cell? ⟨k, 0, none⟩ = some a ∧ X.cell? ⟨k, 1, none⟩ = some b ∧ X.cell? ⟨k, 2, none⟩ = some c ∧ X.cell? ⟨k, 3, none⟩ = some d ∧ X.cell? ⟨k, 4, none⟩ = some e ∧ X.cell? ⟨k, 5, none⟩ = some f) :
    (X.setCell ⟨t, i, none⟩ u).cell? ⟨k, 0, none⟩ = some a ∧ (X.setCell ⟨t, i, none⟩ u).cell? ⟨k, 1, none⟩ = some b ∧ (X.setCell ⟨t, i, none⟩ u).cell? ⟨k, 2, none⟩ = some c ∧ (X.setCell ⟨t, i, none⟩ u).cell? ⟨k, 3, none⟩ = some d ∧ (X.setCell ⟨t, i, none⟩ u).cell? ⟨k, 4, none⟩ = some e ∧ (X.setCell ⟨t, i, none⟩ u).cell? ⟨k, 5, none⟩ = some f := by
  have hk' : ∀ j, (X.setCell ⟨t, i, none⟩ u).cell? ⟨k, j, none⟩ = X.cell? ⟨k, j, none⟩ := fun j => cell_other (by simpa using hk)
  simp only [hk']; exact h
theorem row_chain11 {w : World} {a : Array Value} {A : TypeId} : (w.alloc (.cells a A)).heap[w.heap.size]? = some (.cells a A (0, 0)) := box_row (Below.refl _ _)
theorem row_chain21 {w : World} {a b : Array Value} {A B : TypeId} : ((w.alloc (.cells a A)).alloc (.cells b B)).heap[w.heap.size]? = some (.cells a A (0, 0)) := keep_row (fbone _) row_chain11
theorem row_chain22 {w : World} {a b : Array Value} {A B : TypeId} : ((w.alloc (.cells a A)).alloc (.cells b B)).heap[w.heap.size + 1]? = some (.cells b B (0, 0)) := by
  have := row_chain11 (w := w.alloc (.cells a A)) (a := b) (A := B)
  simpa using this
theorem row_chain31 {w : World} {a b c : Array Value} {A B C : TypeId} : (((w.alloc (.cells a A)).alloc (.cells b B)).alloc (.cells c C)).heap[w.heap.size]? = some (.cells a A (0, 0)) := keep_row (fbone _) row_chain21
theorem row_chain32 {w : World} {a b c : Array Value} {A B C : TypeId} : (((w.alloc (.cells a A)).alloc (.cells b B)).alloc (.cells c C)).heap[w.heap.size + 1]? = some (.cells b B (0, 0)) := keep_row (fbone _) row_chain22
theorem row_chain33 {w : World} {a b c : Array Value} {A B C : TypeId} : (((w.alloc (.cells a A)).alloc (.cells b B)).alloc (.cells c C)).heap[w.heap.size + 2]? = some (.cells c C (0, 0)) := by
  have := row_chain11 (w := (w.alloc (.cells a A)).alloc (.cells b B)) (a := c) (A := C)
  simpa using this
def fO (M : Nat) : Nat := if M = 0 then 0 else 1

section
variable {W X : World} {i j k l : Nat} {a b c d e f a' b' c' d' e' f' a'' b'' c'' d'' e'' f'' x y z : Value} {T T' T'' U : TypeId}
end
theorem deq_lift {X M : Nat} {ex E : Int} (h : deq X ex M E) {e : Int} (h1 : e ≤ ex) (h2 : e ≤ E) : X * 2 ^ (ex - e).toNat = M * 2 ^ (E - e).toNat := by
  obtain ⟨i, j, h3, h4⟩ := h
  by_cases hi : i ≤ (ex - e).toNat
  · rw [show (ex - e).toNat = i + ((ex - e).toNat - i) by omega, Nat.pow_add, ← Nat.mul_assoc, h3, Nat.mul_assoc, ← Nat.pow_add]
    congr 2; omega
  · have hp : 0 < 2 ^ (i - (ex - e).toNat) := Nat.two_pow_pos _
    apply Nat.eq_of_mul_eq_mul_right hp
    rw [Nat.mul_assoc, ← Nat.pow_add, show (ex - e).toNat + (i - (ex - e).toNat) = i by omega, h3, Nat.mul_assoc, ← Nat.pow_add]
    congr 2; omega
def lo (M : Nat) (E e : Int) : Nat := M * 2 ^ (E - e).toNat
theorem lo_lo {M : Nat} {E e t : Int} (h1 : e ≤ E) (h2 : t ≤ e) : lo M E e * 2 ^ (e - t).toNat = lo M E t := by
  unfold lo; rw [Nat.mul_assoc, ← Nat.pow_add]; congr 2; omega
theorem deq_lo {X M : Nat} {ex E : Int} (h : deq X ex M E) {e : Int} (h1 : e ≤ ex) (h2 : e ≤ E) : lo X ex e = lo M E e := deq_lift h h1 h2
theorem lo_self (M : Nat) (E : Int) : lo M E E = M := by unfold lo; simp
theorem lo_pos {M : Nat} {E e : Int} (h : 0 < M) : 0 < lo M E e := Nat.mul_pos h (Nat.two_pow_pos _)
theorem bl_lo (M : Nat) (E e : Int) : bl (lo M E e) ≤ bl M + (E - e).toNat := by
  refine bl_le ?_
  rw [Nat.pow_add]; exact Nat.mul_lt_mul_of_pos_right (lt_bl M) (Nat.two_pow_pos _)
def suM (M : Nat) (E : Int) (N : Nat) (F : Int) : Nat := lo M E (min E F) + lo N F (min E F)
def diM (M : Nat) (E : Int) (N : Nat) (F : Int) : Nat := lo M E (min E F) - lo N F (min E F)
theorem deq_of_lo {S T : Nat} {e g t : Int} (h1 : t ≤ e) (h2 : t ≤ g) (h : S * 2 ^ (e - t).toNat = T * 2 ^ (g - t).toNat) : deq S e T g := ⟨(e - t).toNat, (g - t).toNat, h, by omega⟩
theorem deq_su {X Y M N : Nat} {ex ey E F : Int} (h1 : deq X ex M E) (h2 : deq Y ey N F) : deq (suM X ex Y ey) (min ex ey) (suM M E N F) (min E F) := by
  refine deq_of_lo (t := min (min ex ey) (min E F)) (by omega) (by omega) ?_
  unfold suM
  rw [Nat.add_mul, Nat.add_mul, lo_lo (by omega) (by omega), lo_lo (by omega) (by omega), lo_lo (by omega) (by omega), lo_lo (by omega) (by omega), deq_lo h1 (by omega) (by omega), deq_lo h2 (by omega) (by omega)]
theorem deq_di {X Y M N : Nat} {ex ey E F : Int} (h1 : deq X ex M E) (h2 : deq Y ey N F) : deq (diM X ex Y ey) (min ex ey) (diM M E N F) (min E F) := by
  refine deq_of_lo (t := min (min ex ey) (min E F)) (by omega) (by omega) ?_
  unfold diM
  rw [Nat.sub_mul, Nat.sub_mul, lo_lo (by omega) (by omega), lo_lo (by omega) (by omega), lo_lo (by omega) (by omega), lo_lo (by omega) (by omega), deq_lo h1 (by omega) (by omega), deq_lo h2 (by omega) (by omega)]
theorem deq_le {X Y M N : Nat} {ex ey E F : Int} (h1 : deq X ex M E) (h2 : deq Y ey N F) : lo Y ey (min ex ey) ≤ lo X ex (min ex ey) ↔ lo N F (min E F) ≤ lo M E (min E F) := by
  have hA : 0 < 2 ^ (min ex ey - min (min ex ey) (min E F)).toNat := Nat.two_pow_pos _
  have hB : 0 < 2 ^ (min E F - min (min ex ey) (min E F)).toNat := Nat.two_pow_pos _
  have e1 : lo Y ey (min ex ey) * 2 ^ (min ex ey - min (min ex ey) (min E F)).toNat = lo N F (min E F) * 2 ^ (min E F - min (min ex ey) (min E F)).toNat := by
    rw [lo_lo (by omega) (by omega), lo_lo (by omega) (by omega), deq_lo h2 (by omega) (by omega)]
  have e2 : lo X ex (min ex ey) * 2 ^ (min ex ey - min (min ex ey) (min E F)).toNat = lo M E (min E F) * 2 ^ (min E F - min (min ex ey) (min E F)).toNat := by
    rw [lo_lo (by omega) (by omega), lo_lo (by omega) (by omega), deq_lo h1 (by omega) (by omega)]
  rw [← Nat.mul_le_mul_right_iff hA, e1, e2, Nat.mul_le_mul_right_iff hB]
theorem Good.wds {ws : List Nat} {p : Nat} (h : Good ws p) : ws = wds (wv ws) := by
  have h1 := h.bl
  obtain ⟨h2, -, h3, h4, -⟩ := h
  have hp : 0 < wv ws := Nat.lt_of_lt_of_le (Nat.two_pow_pos _) h4
  exact wds_of h3 (by rw [nw_bl hp, h1]; omega)
theorem bl_diM (M : Nat) (E : Int) (N : Nat) (F : Int) : bl (diM M E N F) ≤ bl M + (E - min E F).toNat := Nat.le_trans (bl_mono (Nat.sub_le _ _)) (bl_lo _ _ _)
theorem bl_suM (M : Nat) (E : Int) (N : Nat) (F : Int) : bl (suM M E N F) ≤ max (bl M + (E - min E F).toNat) (bl N + (F - min E F).toNat) + 1 := by
  refine bl_le ?_
  unfold suM
  have h1 := lt_bl (lo M E (min E F))
  have h2 := lt_bl (lo N F (min E F))
  have h3 := bl_lo M E (min E F)
  have h4 := bl_lo N F (min E F)
  have h5 := Nat.pow_le_pow_right (show 0 < 2 by decide) (show bl (lo M E (min E F)) ≤ max (bl M + (E - min E F).toNat) (bl N + (F - min E F).toNat) by omega)
  have h6 := Nat.pow_le_pow_right (show 0 < 2 by decide) (show bl (lo N F (min E F)) ≤ max (bl M + (E - min E F).toNat) (bl N + (F - min E F).toNat) by omega)
  rw [Nat.pow_succ]; omega
theorem nw_of_bl {n k : Nat} (h : bl n ≤ 64 * k) : nw n ≤ k := by
  rcases Nat.eq_zero_or_pos n with h0 | h0
  · rw [h0, nw_zero]; exact Nat.zero_le _
  · rw [nw_bl h0]; omega
end Go.Proofs.YtllhnjpnkmjopaaGreatDoor
