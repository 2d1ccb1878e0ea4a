/-
Texts of this proof, joined: FlR StC TzC TzD InF TzE SrA SrB FlS. No condition.
-/
import Derived.Test.YtepoeidfkbmenaaGreatDoorK02
import Derived.Test.YtepoeidfkbmenaaGreatDoorK03
import Derived.Test.YtepoeidfkbmenaaGreatDoorK05
import Derived.Test.YtepoeidfkbmenaaGreatDoorK15
import Derived.Test.YtepoeidfkbmenaaGreatDoorK16
import Derived.Test.YtepoeidfkbmenaaGreatDoorK18
/-
The statement on a float's sign. No condition.
-/
namespace Go.Proofs.YtepoeidfkbmenaaGreatDoor
open Go.RowKit

theorem ks12 {W X : World} {k : Nat} {a b c d e f : Value} {T : TypeId} (hr : W.heap[k]? = some (.cells #[a, b, c, d, e, f] T (0, 0))) (h : Below W.heap.size W X) :
    Below W.heap.size W X ∧ X.cell? ⟨k, 0, none⟩ = some a ∧ X.cell? ⟨k, 1, none⟩ = some b ∧ X.cell? ⟨k, 2, none⟩ = some c ∧ X.cell? ⟨k, 3, none⟩ = some d ∧ X.cell? ⟨k, 4, none⟩ = some e ∧ X.cell? ⟨k, 5, none⟩ = some f :=
  ⟨h, (row_at (keep_row h hr) rfl).1, (row_at (keep_row h hr) rfl).1, (row_at (keep_row h hr) rfl).1, (row_at (keep_row h hr) rfl).1, (row_at (keep_row h hr) rfl).1, (row_at (keep_row h hr) rfl).1⟩
end Go.Proofs.YtepoeidfkbmenaaGreatDoor

/-
A new Float of any precision; the statements' number, target, chosen. No condition.
-/
namespace Go.Proofs.YtepoeidfkbmenaaGreatDoor
open Go.RowKit

set_option maxRecDepth 100000 in
theorem setPrec0_new (b B m : Nat) (a e : Int) (neg : Bool) (v : Value) (w : World) (h : FltR w b 0 m a 0 neg v e) (hB : B ≤ b) :
    Calls Tryz.prog 36 #[.pointer (some ⟨b, 0, none⟩), .int .u64 0] w fun e' w' => e' = .returned (.pointer (some ⟨b, 0, none⟩)) ∧ FltR w' b 0 m 0 0 neg v e ∧ Below B w w' := by
  obtain ⟨c0, c1, c2, c3, c4, c5, c6⟩ := h.cells
  obtain ⟨f0, f1, f2, f3, f4, f5, f6⟩ := h.free
  have c3' : w.cell? ⟨b, 3, none⟩ = some (.int .u8 0) := c3
  have F := Lib.hid ((h.s2 0).s0 0)
  have FB := Lib.hid (bset (i := 0) (u := .int .u32 (0 : Int)) (bset (i := 2) (u := .int .i8 0) (Below.refl B w) hB) hB)
  clear h c3
  go_enter Tryz.func36, Tryz.ntmps36
  go_wp2
  go_ret
  exact ⟨rfl, F.out, FB.out⟩
set_option maxRecDepth 100000 in
theorem fresh_zero (m : Nat) (w : World) (hm : m ≤ 255) :
    Calls Tryz.prog 20 #[.int .u64 0, .int .i64 m] w fun e' w' => e' = .returned (.pointer (some ⟨w.heap.size, 0, none⟩)) ∧ FltR w' w.heap.size 0 m 0 0 false (.slice none 0 0) 0 ∧ Below w.heap.size w w' := by
  go_enter Tryz.func20, Tryz.ntmps20
  go_wp2_with fail
  refine (setPrec0_new w.heap.size w.heap.size 0 0 0 false (.slice none 0 0) _ (newF_row w) (Nat.le_refl _)).mono ?_
  rintro _ w1 ⟨rfl, h1, hb1⟩
  have hb1' := (fbone (W := w) newF).trans hb1
  have H1 := Lib.hid h1
  have HB1 := Lib.hid hb1'
  clear h1 hb1 hb1'
  go_wp2_with fail
  refine (setMode_any w.heap.size w.heap.size 0 0 m 0 0 0 false _ w1 H1.out (Nat.le_refl _)).mono ?_
  rintro _ w2 ⟨rfl, h2, hb2⟩
  have H2 := Lib.hid h2
  have HB2 := Lib.hid (HB1.out.trans hb2)
  clear h2 hb2
  go_wp2
  go_ret
  exact ⟨rfl, H2.out, HB2.out⟩
theorem fresh_all (p m : Nat) (w : World) (hp : p ≤ 64000000) (hm : m ≤ 255) :
    Calls Tryz.prog 20 #[.int .u64 p, .int .i64 m] w fun e' w' => ∃ g, e' = .returned (.pointer (some ⟨g, 0, none⟩)) ∧ (g = w.heap.size ∧ FltR w' g p m 0 0 false (.slice none 0 0) 0) ∧ Below w.heap.size w w' := by
  rcases Nat.eq_zero_or_pos p with rfl | h
  · refine (fresh_zero m w hm).mono ?_
    rintro _ w' ⟨rfl, h1, h2⟩
    exact ⟨_, rfl, ⟨rfl, h1⟩, h2⟩
  · refine (fresh_any p m w h hp hm).mono ?_
    rintro _ w' ⟨rfl, h1, h2⟩
    exact ⟨_, rfl, ⟨rfl, h1⟩, h2⟩
set_option maxRecDepth 100000 in
theorem target_any (p m : Nat) (w : World) (hp : p ≤ 65535) (hm : m ≤ 255) :
    Calls Tryz.prog 8 #[.int .u16 p, .int .u8 m] w fun e w' => e = .returned (.tuple #[.int .u64 ((p % 301 : Nat) : Int), .int .i64 ((m % 6 : Nat) : Int)]) ∧ w = w' := by
  have e1 : (p : Int) % 301 = ((p % 301 : Nat) : Int) := by omega
  have e2 : (m : Int) % 6 = ((m % 6 : Nat) : Int) := by omega
  obtain ⟨q, hq⟩ : ∃ q, q = p % 301 := ⟨_, rfl⟩
  obtain ⟨n, hn⟩ : ∃ n, n = m % 6 := ⟨_, rfl⟩
  rw [← hq] at e1 ⊢
  rw [← hn] at e2 ⊢
  have hql : q ≤ 300 := by omega
  have hnl : n ≤ 5 := by omega
  clear hq hn
  go_enter Tryz.func8, Tryz.ntmps8
  go_wp2
  go_ret2
  exact ⟨rfl, rfl⟩
set_option maxRecDepth 100000 in
theorem chosen_any (k p1 p2 m1 m2 f1 f2 : Nat) (n1 n2 : Bool) (v1 v2 : Value) (e1 e2 : Int) (w : World) (hS1 : IsS v1) (hS2 : IsS v2) :
    Calls Tryz.prog 13 #[.int .u64 k, .agg #[.int .u64 p1, .int .i64 m1, .int .i64 f1, .bool n1, v1, .int .i64 e1], .agg #[.int .u64 p2, .int .i64 m2, .int .i64 f2, .bool n2, v2, .int .i64 e2]] w fun e' w' => e' = .returned (.int .u64 (pOf k (max p1 p2) : Nat)) ∧ Below w.heap.size w w' := by
  have hab := (Below.refl w.heap.size w).alloc (Nat.le_refl _) (.cells #[.int .u64 p1, .int .i64 m1, .int .i64 f1, .bool n1, v1, .int .i64 e1] 26)
  have hac := hab.alloc hab.size (.cells #[.int .u64 p2, .int .i64 m2, .int .i64 f2, .bool n2, v2, .int .i64 e2] 26)
  have em : max (p1 : Int) (p2 : Int) = ((max p1 p2 : Nat) : Int) := by omega
  by_cases hk : k = 0
  · have t : ((k : Int) == 0) = true := by rw [hk]; rfl
    have H : Hid (pOf k (max p1 p2) = max p1 p2) := Lib.hid (by unfold pOf; rw [if_pos hk])
    obtain ⟨M, hM⟩ : ∃ M, M = max p1 p2 := ⟨_, rfl⟩
    rw [← hM] at em H ⊢
    clear hk hM
    go_enter Tryz.func13, Tryz.ntmps13
    go_wp2
    go_ret
    rw [H.out]
    exact ⟨rfl, hac⟩
  · have t : ((k : Int) == 0) = false := by rw [beq_eq_false_iff_ne]; omega
    have H : Hid (pOf k (max p1 p2) = k) := Lib.hid (by unfold pOf; rw [if_neg hk])
    clear hk em
    go_enter Tryz.func13, Tryz.ntmps13
    go_wp2
    go_ret
    rw [H.out]
    exact ⟨rfl, hac⟩
/-- What number says of a Real. -/
def NumIs (p m f : Int) (ws : List Nat) (e : Int) : Prop := f ≠ 2 ∧ RealIs 300 1000 p m f ws e
set_option maxRecDepth 100000 in
set_option maxHeartbeats 800000 in
theorem number_any (p : Nat) (m f e : Int) (neg : Bool) (v : Value) (ws : List Nat) (w : World) (hv : RW w v ws) :
    Calls Tryz.prog 7 #[.agg #[.int .u64 p, .int .i64 m, .int .i64 f, .bool neg, v, .int .i64 e]] w fun e' w' => ∃ ok, e' = .returned (.bool ok) ∧ (ok = true → NumIs p m f ws e) ∧ Below w.heap.size w w' := by
  have hS := hv.isS
  have hab := (Below.refl w.heap.size w).alloc (Nat.le_refl _) (.cells #[.int .u64 p, .int .i64 m, .int .i64 f, .bool neg, v, .int .i64 e] 26)
  obtain ⟨W, hW⟩ : ∃ W, W = w.alloc (.cells #[.int .u64 p, .int .i64 m, .int .i64 f, .bool neg, v, .int .i64 e] 26) := ⟨_, rfl⟩
  have hrow : W.heap[w.heap.size]? = some (.cells #[.int .u64 p, .int .i64 m, .int .i64 f, .bool neg, v, .int .i64 e] 26 (0, 0)) := by rw [hW]; exact box_row (Below.refl _ _)
  rw [← hW] at hab
  obtain ⟨-, x0, x1, x2, x3, x4, x5⟩ := ks12 hrow (Below.refl _ _)
  have HV := Lib.hid (hv.below hab)
  have HAB := Lib.hid hab
  clear hrow hv hab
  by_cases f2 : f = 2
  · have t : (f != 2) = false := by rw [f2]; rfl
    clear f2
    go_enter Tryz.func7, Tryz.ntmps7
    go_upto_region 1 with fail
    rw [← hW]
    clear hW
    go_wp2
    go_ret
    exact ⟨_, rfl, fun h => by simp at h, HAB.out⟩
  · have t : (f != 2) = true := by rw [bne_iff_ne]; exact f2
    have HF := Lib.hid f2
    clear f2
    go_enter Tryz.func7, Tryz.ntmps7
    go_upto_region 1 with fail
    rw [← hW]
    clear hW
    go_wp2_with fail
    refine (real_any 300 1000 p m f e neg v ws W HV.out (by decide) (by decide)).mono ?_
    rintro _ w1 ⟨ok, rfl, hok, hb⟩
    have HOK := Lib.hid hok
    have HB := Lib.hid (HAB.out.trans (hb.mono HAB.out.size))
    clear hok hb
    go_wp2
    go_ret
    exact ⟨_, rfl, fun h => ⟨HF.out, HOK.out h⟩, HB.out⟩
end Go.Proofs.YtepoeidfkbmenaaGreatDoor

/-
Floats: the least precision; a Float as an integer. No condition.
-/
namespace Go.Proofs.YtepoeidfkbmenaaGreatDoor
open Go.RowKit

set_option maxRecDepth 100000 in
set_option maxHeartbeats 800000 in
theorem minPrec_one (b p m : Nat) (a e : Int) (neg : Bool) (v : Value) (ws : List Nat) (w : World) (h : FltR w b p m a 1 neg v e) (hv : RW w v ws) (h0 : 0 < wv ws) (hl : ws.length ≤ 1000000) (htop : bl (wv ws) = 64 * ws.length) (hT : TabW w) :
    Calls Tryz.prog 58 #[.pointer (some ⟨b, 0, none⟩)] w fun e' w' => e' = .returned (.int .u64 (bl (od (wv ws)) : Nat)) ∧ ∃ n, w' = w.drewN n := by
  obtain ⟨c0, c1, c2, c3, c4, c5, c6⟩ := h.cells
  have hS := hv.isS
  have hL := hv.len
  have hb := bl_od h0
  obtain ⟨t, ht⟩ : ∃ t, t = tz (wv ws) := ⟨_, rfl⟩
  obtain ⟨q, hq⟩ : ∃ q, q = bl (od (wv ws)) := ⟨_, rfl⟩
  obtain ⟨L, hLL⟩ : ∃ L, L = ws.length := ⟨_, rfl⟩
  have hTz : ∀ k, Calls Tryz.prog 77 #[v] (w.drewN k) fun e' w' => e' = .returned (.int .u64 (t : Nat)) ∧ w' = w.drewN k := fun k => by
    rw [ht]
    refine (tzb_any v ws (w.drewN k) (hv.below (undrewN' (Below.refl _ _))) h0 (by omega) (hT.drewN k)).mono ?_
    rintro _ _ ⟨rfl, rfl⟩
    exact ⟨rfl, rfl⟩
  have HTz := Lib.hid hTz
  have e1 : (L : Int) * 64 - (t : Int) = (q : Int) := by rw [htop, ← hq, ← ht, ← hLL] at hb; omega
  rw [← hq]
  rw [← hLL] at hL hl
  have hqb : q ≤ 64000000 := by omega
  have htb : t ≤ 64000000 := by omega
  clear h hv h0 htop hT hTz ht hq hLL hb
  go_enter Tryz.func58, Tryz.ntmps58
  go_wp2_with fail
  go_quiet ((go_at_call 77; exact Calls.quiet_of_same (HTz.out _)))
  go_wp2
  go_ret
  exact ⟨rfl, _, rfl⟩
/-- An integer's cells lie new. -/
theorem intP_of {w : World} {B g n : Nat} {neg : Bool} {v : Value} (hB : B ≤ g) (h : w.heap[g]? = some (.cells #[.bool neg, v] 108 (0, 0))) (ho : Own w B 105 v (cellsW (wds n))) : IntP w B g neg n := ⟨v, hB, h, ho⟩
def accI (neg ex : Bool) : Int := if ex then 0 else if neg then 1 else -1
set_option maxRecDepth 100000 in
set_option maxHeartbeats 3200000 in
theorem floatInt_le (b p m k : Nat) (a : Int) (neg : Bool) (v : Value) (ws : List Nat) (w : World) (h : FltR w b p m a 1 neg v (k : Int)) (hv : RW w v ws) (h0 : 0 < wv ws) (hl : ws.length ≤ 1000000) (htop : bl (wv ws) = 64 * ws.length) (hT : TabW w)
    (hk0 : 0 < k) (hk : k ≤ 64 * ws.length) :
    Calls Tryz.prog 59 #[.pointer (some ⟨b, 0, none⟩), .pointer none] w fun e' w' => ∃ g, e' = .returned (.tuple #[.pointer (some ⟨g, 0, none⟩), .int .i8 (accI neg (decide (bl (od (wv ws)) ≤ k)))]) ∧ IntP w' w.heap.size g neg (wv ws / 2 ^ (64 * ws.length - k)) ∧ Below w.heap.size w w' := by
  have hS := hv.isS
  have hL := hv.len
  have hrow : (w.alloc (.cells #[.bool false, .slice none 0 0] 108)).heap[w.heap.size]? = some (.cells #[.bool false, .slice none 0 0] 108 (0, 0)) := box_row (Below.refl _ _)
  obtain ⟨X, hX⟩ : ∃ X, X = w.alloc (.cells #[.bool false, .slice none 0 0] 108) := ⟨_, rfl⟩
  have hab := (Below.refl w.heap.size w).alloc (Nat.le_refl _) (.cells #[.bool false, .slice none 0 0] 108)
  rw [← hX] at hrow hab
  have hF := h.below hab
  obtain ⟨c0, c1, c2, c3, c4, c5, c6⟩ := h.cells
  have hR := hrow
  obtain ⟨L, hLL⟩ : ∃ L, L = ws.length := ⟨_, rfl⟩
  obtain ⟨P, hP⟩ : ∃ P, P = bl (od (wv ws)) := ⟨_, rfl⟩
  have HF := Lib.hid hF
  have HV := Lib.hid hv
  have HWS : Hid (cellsW ws = cellsW (wds (wv ws))) := Lib.hid (congrArg cellsW (wds_of hv.lt (by rw [nw_bl h0, htop]; omega)))
  have HMP := Lib.hid (fun (W : World) (hb : Below w.heap.size w W) => minPrec_one b p m a (k : Int) neg v ws W (h.below hb) (hv.below hb) h0 hl htop (hT.below hb))
  rw [← hP] at HMP ⊢
  have HAB := Lib.hid hab
  have HR := Lib.hid hR
  rw [← hLL] at hL hk hl ⊢
  have hne : ¬ b = w.heap.size := fun hc => by have := h.lt; omega
  have hne' : ¬ w.heap.size = b := fun hc => hne hc.symm
  have hPb : P ≤ 64000000 := by
    have h1 := bl_od h0
    rw [hP]; rw [htop, ← hLL] at h1; omega
  have t1 : decide ((k : Int) ≤ 0) = false := decide_eq_false (by omega)
  have hXs := hab.size
  have HLL := Lib.hid hLL
  clear h hv h0 htop hT hab hrow hF hR hP hLL
  go_enter Tryz.func59, Tryz.ntmps59
  go_upto_region 3 with fail
  rw [← hX]
  clear hX c0 c1 c2 c3 c4 c5 c6
  obtain ⟨c0, c1, c2, c3, c4, c5, c6⟩ := HF.out.cells
  have c3' : X.cell? ⟨b, 3, none⟩ = some (.int .u8 1) := c3
  clear c3
  go_wp2_with fail
  refine (makeAcc_any neg X).mono ?_
  rintro _ _ ⟨rfl, rfl⟩
  obtain ⟨ac, hac⟩ : ∃ ac : Int, ac = (if neg then 1 else -1) := ⟨_, rfl⟩
  rw [← hac]
  have HAC := Lib.hid hac
  clear hac
  go_wp2_with fail
  refine (HMP.out X HAB.out).mono ?_
  rintro _ _ ⟨rfl, n1, rfl⟩
  go_upto_if 53 with fail
  go_cut [6] (fun x wx => x = .int .i8 (accI neg (decide (P ≤ k))) ∧ X.drewN n1 = wx)
  case first =>
    by_cases hPk : P ≤ k
    · have q1 : decide (P ≤ k) = true := decide_eq_true hPk
      go_wp2_with fail
      go_meet
      exact ⟨by rw [q1]; rfl, rfl⟩
    · have q1 : decide (P ≤ k) = false := decide_eq_false hPk
      go_wp2_with fail
      go_meet
      exact ⟨by rw [q1, HAC.out]; rfl, rfl⟩
  case rest =>
    obtain ⟨rfl, rfl⟩ := hcut
    obtain ⟨A, hA⟩ : ∃ A, A = accI neg (decide (P ≤ k)) := ⟨_, rfl⟩
    rw [← hA]
    have HAA := Lib.hid hA
    clear hA HAC
    have hR : (X.drewN n1).heap[w.heap.size]? = some (.cells #[.bool false, .slice none 0 0] 108 (0, 0)) := HR.out
    have hF : FltR (X.drewN n1) b p m a 1 neg v (k : Int) := HF.out
    have hB1 : Below w.heap.size w (X.drewN n1) := undrewN' HAB.out
    obtain ⟨W, hW⟩ : ∃ W, W = X.drewN n1 := ⟨_, rfl⟩
    rw [← hW] at hR hF hB1 ⊢
    clear hW HR HF HMP HAB c0 c1 c2 c3' c4 c5 c6
    have r0 : W.cell? ⟨w.heap.size, 0, none⟩ = some (.bool false) := (row_at (i := 0) hR rfl).1
    have r1 : W.cell? ⟨w.heap.size, 1, none⟩ = some (.slice none 0 0) := (row_at (i := 1) hR rfl).1
    have z0 := frozen_of_row W w.heap.size 0 _ _ hR
    have z1 := frozen_of_row W w.heap.size 1 _ _ hR
    obtain ⟨c0, c1, c2, c3, c4, c5, c6⟩ := hF.cells
    have hWs := hB1.size
    have R1 := rowset (i := 0) (.bool neg) hR
    have hB2 := bset (i := 0) (u := .bool neg) hB1 (Nat.le_refl _)
    have R1c : (W.setCell ⟨w.heap.size, 0, none⟩ (.bool neg)).heap[w.heap.size]? = some (.cells #[.bool neg, .slice none 0 0] 108 (0, 0)) := R1
    have F1 : FltR (W.setCell ⟨w.heap.size, 0, none⟩ (.bool neg)) b p m a 1 neg v (k : Int) := (heap_setCell_other _ _ _ _ (by simpa using hne)).trans hF
    have s1 : (W.setCell ⟨w.heap.size, 0, none⟩ (.bool neg)).cell? ⟨w.heap.size, 1, none⟩ = some (.slice none 0 0) := (row_at (i := 1) R1c rfl).1
    obtain ⟨d0, d1, d2, d3, d4, d5, d6⟩ := F1.cells
    have HR1 := Lib.hid R1c
    have HB2 := Lib.hid hB2
    have hsz : w.heap.size ≤ (W.setCell ⟨w.heap.size, 0, none⟩ (.bool neg)).heap.size := hB2.size
    have fin : ∀ (nq : Nat) (w2 : World) (r : Value) (N : Nat), Own w2 (W.setCell ⟨w.heap.size, 0, none⟩ (.bool neg)).heap.size 105 r (cellsW (wds N)) → Below (W.setCell ⟨w.heap.size, 0, none⟩ (.bool neg)).heap.size ((W.setCell ⟨w.heap.size, 0, none⟩ (.bool neg)).drewN nq) w2 →
        w2.frozen? ⟨w.heap.size, 1, none⟩ = false ∧ w2.cell? ⟨w.heap.size, 1, none⟩ = some (.slice none 0 0) ∧ IntP (w2.setCell ⟨w.heap.size, 1, none⟩ r) w.heap.size w.heap.size neg N ∧ Below w.heap.size w (w2.setCell ⟨w.heap.size, 1, none⟩ r) := fun nq w2 r N ho hb => by
      have hrow2 : w2.heap[w.heap.size]? = some (.cells #[.bool neg, .slice none 0 0] 108 (0, 0)) := keep_row (undrewN hb) HR1.out
      refine ⟨frozen_of_row w2 _ 1 _ _ hrow2, (row_at (i := 1) hrow2 rfl).1, intP_of (v := r) (Nat.le_refl _) (rowset (i := 1) r hrow2) ((ho.mono hsz).away hrow2 (by decide) 1 r), bset (HB2.out.trans ((undrewN hb).mono hsz)) (Nat.le_refl _)⟩
    have FIN := Lib.hid fin
    have tk : decide (L * 64 < k) = false := decide_eq_false (by omega)
    have tk' : decide ((L : Int) * 64 < (k : Int)) = false := decide_eq_false (by omega)
    clear fin R1 R1c hB2 hB1 hR hF F1
    by_cases hkL : k < L * 64
    · have t2 : decide (k < L * 64) = true := decide_eq_true hkL
      have t2' : decide ((k : Int) < (L : Int) * 64) = true := decide_eq_true (by omega)
      have es : (L : Int) * 64 - (k : Int) = ((L * 64 - k : Nat) : Int) := by omega
      obtain ⟨s, hs⟩ : ∃ s, s = L * 64 - k := ⟨_, rfl⟩
      rw [← hs] at es
      have hs0 : 0 < s := by omega
      have hsl : s < 64 * L := by omega
      have HS := Lib.hid (show s = 64 * L - k by omega)
      clear hs hkL
      go_wp2_with fail
      (refine wp_region_hoist 12 (by kernel_rfl) (by kernel_rfl) ⟨fun _ _ _ h => (by first | exact (hQp _ _ _ h).elim | cases h.2.1 | (obtain ⟨_, h3, _⟩ := h.2; cases h3)), fun _ _ h => (by first | exact (hQo _ _ h).elim | cases h.1 | (obtain ⟨_, h3, _⟩ := h; cases h3))⟩ ?_; simp only [List.take_succ_cons, List.take_zero, List.drop_succ_cons, List.drop_zero]; (repeat (go_big_quiet_step (fail))); refine wpQuiet_nil ?_; rintro _ ⟨nq, rfl⟩)
      go_wp2_with fail
      refine (rsh_nil v ws s _ ((HV.out.below HB2.out).below (undrewN' (Below.refl _ _))) (by rw [← HLL.out]; exact hl) hs0 (by rw [← HLL.out]; exact hsl)).mono ?_
      rintro _ w2 ⟨r, rfl, ho, hb⟩
      have hSr := ho.isS
      obtain ⟨g1, g2, g3, g4⟩ := FIN.out nq w2 r _ ho hb
      have G3 := Lib.hid g3
      have G4 := Lib.hid g4
      clear g3 g4 ho hb
      go_wp2
      go_ret2
      refine ⟨w.heap.size, by rw [← HAA.out]; rfl, ?_, G4.out⟩
      rw [← HS.out]; exact G3.out
    · have t2 : decide (k < L * 64) = false := decide_eq_false hkL
      have t2' : decide ((k : Int) < (L : Int) * 64) = false := decide_eq_false (by omega)
      have HKE := Lib.hid (show 64 * L - k = 0 by omega)
      clear hkL
      go_wp2_with fail
      (refine wp_region_hoist 9 (by kernel_rfl) (by kernel_rfl) ⟨fun _ _ _ h => (by first | exact (hQp _ _ _ h).elim | cases h.2.1 | (obtain ⟨_, h3, _⟩ := h.2; cases h3)), fun _ _ h => (by first | exact (hQo _ _ h).elim | cases h.1 | (obtain ⟨_, h3, _⟩ := h; cases h3))⟩ ?_; simp only [List.take_succ_cons, List.take_zero, List.drop_succ_cons, List.drop_zero]; (repeat (go_big_quiet_step (fail))); refine wpQuiet_nil ?_; rintro _ ⟨nq, rfl⟩)
      go_wp2_with fail
      refine (set_nil v ws _ ((HV.out.below HB2.out).below (undrewN' (Below.refl _ _))) (by rw [← HLL.out]; omega)).mono ?_
      rintro _ w2 ⟨r, rfl, ho, hb⟩
      have hSr := ho.isS
      rw [HWS.out] at ho
      obtain ⟨g1, g2, g3, g4⟩ := FIN.out nq w2 r _ ho hb
      have G3 := Lib.hid g3
      have G4 := Lib.hid g4
      clear g3 g4 ho hb
      go_wp2
      go_ret2
      refine ⟨w.heap.size, by rw [← HAA.out]; rfl, ?_, G4.out⟩
      rw [HKE.out, Nat.pow_zero, Nat.div_one]; exact G3.out
end Go.Proofs.YtepoeidfkbmenaaGreatDoor

/-
Floats: what is told of one; MantExp. No condition.
-/
namespace Go.Proofs.YtepoeidfkbmenaaGreatDoor
open Go.RowKit

section
variable {b p m f : Nat} {a e : Int} {neg : Bool} {v : Value} {w : World}
set_option maxRecDepth 100000 in
theorem fPrec (h : FltR w b p m a f neg v e) (hp : p ≤ 64000000) : Calls Tryz.prog 52 #[.pointer (some ⟨b, 0, none⟩)] w fun e' w' => e' = .returned (.int .u64 p) ∧ w = w' := by
  obtain ⟨c0, c1, c2, c3, c4, c5, c6⟩ := h.cells
  clear h
  go_enter Tryz.func52, Tryz.ntmps52
  go_wp2
  go_ret
  exact ⟨rfl, rfl⟩
set_option maxRecDepth 100000 in
theorem fMode (h : FltR w b p m a f neg v e) : Calls Tryz.prog 53 #[.pointer (some ⟨b, 0, none⟩)] w fun e' w' => e' = .returned (.int .u8 m) ∧ w = w' := by
  obtain ⟨c0, c1, c2, c3, c4, c5, c6⟩ := h.cells
  clear h
  go_enter Tryz.func53, Tryz.ntmps53
  go_wp2
  go_ret
  exact ⟨rfl, rfl⟩
set_option maxRecDepth 100000 in
theorem fAcc (h : FltR w b p m a f neg v e) : Calls Tryz.prog 35 #[.pointer (some ⟨b, 0, none⟩)] w fun e' w' => e' = .returned (.int .i8 a) ∧ w = w' := by
  obtain ⟨c0, c1, c2, c3, c4, c5, c6⟩ := h.cells
  clear h
  go_enter Tryz.func35, Tryz.ntmps35
  go_wp2
  go_ret
  exact ⟨rfl, rfl⟩
set_option maxRecDepth 100000 in
theorem fIsInf (h : FltR w b p m a f neg v e) : Calls Tryz.prog 55 #[.pointer (some ⟨b, 0, none⟩)] w fun e' w' => e' = .returned (.bool (decide (f = 2))) ∧ w = w' := by
  obtain ⟨c0, c1, c2, c3, c4, c5, c6⟩ := h.cells
  have t : ((f : Int) == 2) = decide (f = 2) := by
    by_cases hf : f = 2
    · rw [hf]; rfl
    · rw [decide_eq_false hf, beq_eq_false_iff_ne]; omega
  obtain ⟨B, hB⟩ : ∃ B, B = decide (f = 2) := ⟨_, rfl⟩
  rw [← hB] at t ⊢
  clear h hB
  go_enter Tryz.func55, Tryz.ntmps55
  go_wp2
  go_ret
  exact ⟨rfl, rfl⟩
end
set_option maxRecDepth 100000 in
set_option maxHeartbeats 1600000 in
theorem mantExp_one (b B c p0 m0 f0' p m : Nat) (a0 e0 a e : Int) (n0 neg : Bool) (v : Value) (ws : List Nat) (w : World) (h : FltR w b p0 m0 a0 f0' n0 (.slice none 0 0) e0) (hB : B ≤ b) (hx : FltR w c p m a 1 neg v e) (hbc : b ≠ c)
    {Bx : Nat} (ho : Own w Bx 105 v (cellsW ws)) (hd : ∀ d ∈ ws, d < 18446744073709551616) (hl : ws.length ≤ 1000000) (he1 : -2147483648 ≤ e) (he2 : e ≤ 2147483647) :
    Calls Tryz.prog 57 #[.pointer (some ⟨c, 0, none⟩), .pointer (some ⟨b, 0, none⟩)] w fun e' w' => e' = .returned (.int .i64 e) ∧ ∃ r, FltR w' b p m a 1 neg r 0 ∧ Own w' B 105 r (cellsW ws) ∧ Below B w w' := by
  obtain ⟨c0, c1, c2, c3, c4, c5, c6⟩ := hx.cells
  have c3' : w.cell? ⟨c, 3, none⟩ = some (.int .u8 1) := c3
  have HC := Lib.hid (copyF b B c p0 m0 f0' p m a0 e0 a e n0 neg v ws w h hB hx hbc ho hd hl)
  clear h hx ho hd c3
  go_enter Tryz.func57, Tryz.ntmps57
  go_wp2_with fail
  refine HC.out.mono ?_
  rintro _ w1 ⟨rfl, r, h1, h2, h3⟩
  obtain ⟨d0, d1, d2, d3, d4, d5, d6⟩ := h1.cells
  have d3' : w1.cell? ⟨b, 3, none⟩ = some (.int .u8 1) := d3
  obtain ⟨f0, f1, f2, f3, f4, f5, f6⟩ := h1.free
  have R := Lib.hid (h1.s6 0)
  have O := Lib.hid (h1.own h2 6 (.int .i32 (0 : Int)))
  have BB := Lib.hid (bset (i := 6) (u := .int .i32 (0 : Int)) h3 hB)
  clear h1 h2 h3 d3
  go_wp2
  go_ret
  exact ⟨rfl, r, R.out, O.out, BB.out⟩
/-- A Real that a Float has. -/
def RealV (w : World) (z : Value) (p m f : Nat) (neg : Bool) (M : Nat) (X : Int) : Prop :=
  ∃ (v : Value) (E : Int) (zs : List Nat) (B : Nat), z = .agg #[.int .u64 p, .int .i64 m, .int .i64 f, .bool neg, v, .int .i64 E] ∧ Own w B 23 v (cellsW zs) ∧ (∀ d ∈ zs, d < 18446744073709551616) ∧ (f ≠ 1 → zs = [] ∧ E = 0) ∧ (f = 1 → zs = wds (od M) ∧ E = X + (tz M : Nat))
end Go.Proofs.YtepoeidfkbmenaaGreatDoor

/-
The thin package's integers: wordsOf, told. No condition.
-/
namespace Go.Proofs.YtepoeidfkbmenaaGreatDoor
open Go.RowKit

def WoU (ws : List Nat) (B k : Nat) (w : World) (v : Value) (wr : World) : Prop := Own wr B 23 v (cellsW (ws.take k)) ∧ Below B w wr
theorem WoU.step {ws : List Nat} {B k : Nat} {w w1 : World} {v1 : Value} (hk : k < ws.length) (h : Own w1 B 23 v1 (cellsW (ws.take k) ++ [.int .u64 ((ws.getD k 0 : Nat) : Int)])) (hb : Below B w w1) : WoU ws B (k + 1) w v1 w1 := by
  refine ⟨?_, hb⟩
  rw [cellsW_snoc] at h
  rw [List.take_succ_eq_append_getElem hk]
  simpa [List.getD_eq_getElem?_getD, List.getElem?_eq_getElem hk] using h
set_option maxRecDepth 100000 in
set_option maxHeartbeats 800000 in
theorem wordsOf_any (b o : Nat) (v : Value) (ws : List Nat) (w : World) (hc : w.cell? ⟨b, o + 1, none⟩ = some v) (hv : RW w v ws) (hl : ws.length ≤ 100000000) :
    Calls Tryz.prog 60 #[.pointer (some ⟨b, o, none⟩)] w fun e w' => ∃ r, e = .returned r ∧ Own w' w.heap.size 23 r (cellsW ws) ∧ Below w.heap.size w w' := by
  have hSv := hv.isS
  have hLv := hv.len
  obtain ⟨la, hla⟩ : ∃ la, la = ws.length := ⟨_, rfl⟩
  rw [← hla] at hLv hl
  have Hla := Lib.hid hla
  have Hv := Lib.hid hv
  clear hla hv
  go_enter Tryz.func60, Tryz.ntmps60
  go_wp2_with fail
  refine (intBits b o v w hc hSv).mono ?_
  rintro _ _ ⟨rfl, rfl⟩
  go_wp2
  go_loopw [3, 9] (fun v i wr => ∃ k : Nat, k ≤ la ∧ i = .int .i64 k ∧ WoU ws w.heap.size k w v wr) (fun _ i _ => la - (intOf i).toNat)
  case atStart => exact ⟨0, Nat.zero_le _, rfl, Own.nil _ _ _, Below.refl _ _⟩
  case round =>
    obtain ⟨i, hi, rfl, hO, hbl⟩ := hrel
    have hbz := hbl.size
    have hSo : IsS u3 := hO.isS
    have HO := Lib.hid hO
    clear hO
    by_cases hia : i < la
    · have ca := (Hv.out.below hbl).cell i (by rw [← Hla.out]; exact hia)
      obtain ⟨d, hd⟩ : ∃ d, d = ws.getD i 0 := ⟨_, rfl⟩
      rw [← hd] at ca
      have Hd := Lib.hid hd
      clear hd
      have hlk : (cellsW (ws.take i)).length = i := by rw [cellsW_length]; have := Hla.out; simp; omega
      have Hlk := Lib.hid hlk
      clear hlk
      go_wp2_with (at_builtin; refine wpList_append_O rfl _ _ _ _ rfl elemU w.heap.size _ _ rfl (HO.out.alloc _) _ rfl 1 [.int .u64 (d : Int)] (srcOne Tryz.underlying24 wr _ _) ?c3 ?c4 ?c5 ?_)
      case c3 => rw [Hlk.out]; unfold maxLen; omega
      case c4 => rw [Hlk.out]; omega
      case c5 => simp; omega
      rintro v1 w1 ho1 hb1 - - -
      have hs := WoU.step (by rw [← Hla.out]; exact hia) (by rw [← Hd.out]; exact ho1) ((hbl.alloc hbz _).trans hb1)
      have Hs := Lib.hid hs
      clear hs ho1
      go_wp2
      go_roundw
      case rel => exact ⟨i + 1, by omega, by go_num, Hs.out⟩
      case measure => simp [intOf]; omega
    · have hil : i = la := by omega
      subst hil
      have hfull : ws.take i = ws := List.take_of_length_le (by rw [Hla.out]; exact Nat.le_refl _)
      have ho := HO.out
      rw [hfull] at ho
      have Ho := Lib.hid ho
      clear hfull ho
      go_wp2
      go_ret
      exact ⟨_, rfl, Ho.out, hbl⟩
theorem sgn_lt (neg : Bool) (n : Nat) : decide (sgnI neg (nw n) < 0) = (neg && decide (0 < n)) := by
  rcases Nat.eq_zero_or_pos n with h | h
  · subst h; cases neg <;> rfl
  · have := nw_pos h
    unfold sgnI
    rw [if_neg (by omega)]
    cases neg
    · rfl
    · simp [h]
end Go.Proofs.YtepoeidfkbmenaaGreatDoor

/-
The thin package's real. No condition.
-/
namespace Go.Proofs.YtepoeidfkbmenaaGreatDoor
open Go.RowKit

theorem row6_set {w : World} {k T : Nat} {a b c d e f x y z x' y' z' : Value} (h : w.heap[k]? = some (.cells #[a, b, c, d, e, f] T (0, 0))) :
    ((((((w.setCell ⟨k, 0, none⟩ x).setCell ⟨k, 1, none⟩ y).setCell ⟨k, 2, none⟩ z).setCell ⟨k, 3, none⟩ x').setCell ⟨k, 4, none⟩ y').setCell ⟨k, 5, none⟩ z').heap[k]? = some (.cells #[x, y, z, x', y', z'] T (0, 0)) :=
  rowset (i := 5) z' (rowset (i := 4) y' (rowset (i := 3) x' (rowset (i := 2) z (rowset (i := 1) y (rowset (i := 0) x h)))))
theorem row6 {w : World} {k T : Nat} {a b c d e f : Value} (h : w.heap[k]? = some (.cells #[a, b, c, d, e, f] T (0, 0))) :
    (w.cell? ⟨k, 0, none⟩ = some a ∧ w.cell? ⟨k, 1, none⟩ = some b ∧ w.cell? ⟨k, 2, none⟩ = some c ∧ w.cell? ⟨k, 3, none⟩ = some d ∧ w.cell? ⟨k, 4, none⟩ = some e ∧ w.cell? ⟨k, 5, none⟩ = some f) ∧
    (w.frozen? ⟨k, 0, none⟩ = false ∧ w.frozen? ⟨k, 1, none⟩ = false ∧ w.frozen? ⟨k, 2, none⟩ = false ∧ w.frozen? ⟨k, 3, none⟩ = false ∧ w.frozen? ⟨k, 4, none⟩ = false ∧ w.frozen? ⟨k, 5, none⟩ = false) :=
  ⟨⟨(row_at (i := 0) h rfl).1, (row_at (i := 1) h rfl).1, (row_at (i := 2) h rfl).1, (row_at (i := 3) h rfl).1, (row_at (i := 4) h rfl).1, (row_at (i := 5) h rfl).1⟩,
   ⟨(row_at (i := 0) h rfl).2, (row_at (i := 1) h rfl).2, (row_at (i := 2) h rfl).2, (row_at (i := 3) h rfl).2, (row_at (i := 4) h rfl).2, (row_at (i := 5) h rfl).2⟩⟩
theorem bset6 {W w : World} {B k : Nat} {x y z x' y' z' : Value} (h : Below B W w) (hk : B ≤ k) :
    Below B W ((((((w.setCell ⟨k, 0, none⟩ x).setCell ⟨k, 1, none⟩ y).setCell ⟨k, 2, none⟩ z).setCell ⟨k, 3, none⟩ x').setCell ⟨k, 4, none⟩ y').setCell ⟨k, 5, none⟩ z') :=
  bset (bset (bset (bset (bset (bset h hk) hk) hk) hk) hk) hk
theorem RW.nil (w : World) : RW w (.slice none 0 0) [] := ⟨⟨IsS.nil, rfl, fun i hi => by simp [ints] at hi⟩, fun d hd => by cases hd⟩
theorem heap6_other {w : World} {k j : Nat} {x y z x' y' z' : Value} (h : j ≠ k) :
    ((((((w.setCell ⟨k, 0, none⟩ x).setCell ⟨k, 1, none⟩ y).setCell ⟨k, 2, none⟩ z).setCell ⟨k, 3, none⟩ x').setCell ⟨k, 4, none⟩ y').setCell ⟨k, 5, none⟩ z').heap[j]? = w.heap[j]? := by
  rw [heap_setCell_other _ _ _ _ (by simpa using h), heap_setCell_other _ _ _ _ (by simpa using h), heap_setCell_other _ _ _ _ (by simpa using h), heap_setCell_other _ _ _ _ (by simpa using h), heap_setCell_other _ _ _ _ (by simpa using h), heap_setCell_other _ _ _ _ (by simpa using h)]
theorem realV_other (w : World) (p m f : Nat) (neg : Bool) (M : Nat) (X : Int) (hf : f ≠ 1) : RealV w (.agg #[.int .u64 p, .int .i64 m, .int .i64 f, .bool neg, .slice none 0 0, .int .i64 0]) p m f neg M X :=
  ⟨.slice none 0 0, 0, [], 0, rfl, Own.nil _ _ _, (fun d hd => by cases hd), fun _ => ⟨rfl, rfl⟩, fun h => absurd h hf⟩
set_option maxRecDepth 100000 in
set_option maxHeartbeats 3200000 in
theorem real_other (b p m f : Nat) (a e : Int) (neg : Bool) (v : Value) (w : World) (h : FltR w b p m a f neg v e) (hf : f = 0 ∨ f = 2) (hp : p ≤ 64000000) (hm : m ≤ 255) (M : Nat) (X : Int) :
    Calls Tryz.prog 34 #[.pointer (some ⟨b, 0, none⟩)] w fun e' w' => ∃ z, e' = .returned z ∧ RealV w' z p m f neg M X ∧ Below w.heap.size w w' := by
  have hab := (Below.refl w.heap.size w).alloc (Nat.le_refl _) (.cells #[.int .u64 0, .int .i64 0, .int .i64 0, .bool false, .slice none 0 0, .int .i64 0] 26)
  obtain ⟨Y, hY⟩ : ∃ Y, Y = w.alloc (.cells #[.int .u64 0, .int .i64 0, .int .i64 0, .bool false, .slice none 0 0, .int .i64 0] 26) := ⟨_, rfl⟩
  have hr1 : Y.heap[w.heap.size]? = some (.cells #[.int .u64 0, .int .i64 0, .int .i64 0, .bool false, .slice none 0 0, .int .i64 0] 26 (0, 0)) := by rw [hY]; exact box_row (Below.refl _ _)
  rw [← hY] at hab
  have hF := Lib.hid (h.below hab)
  have HR1 := Lib.hid hr1
  have HAB := Lib.hid hab
  have hYs : Y.heap.size = w.heap.size + 1 := by rw [hY]; simp
  have hlt := h.lt
  clear h hr1 hab
  go_enter Tryz.func34, Tryz.ntmps34
  go_upto_region 1 with fail
  rw [← hY]
  clear hY
  go_wp2_with fail
  refine (fPrec hF.out hp).mono ?_
  rintro _ _ ⟨rfl, rfl⟩
  go_wp2_with fail
  refine (fMode hF.out).mono ?_
  rintro _ _ ⟨rfl, rfl⟩
  go_wp2_with fail
  refine (fSignbit b p m f a e neg v Y hF.out).mono ?_
  rintro _ _ ⟨rfl, rfl⟩
  obtain ⟨Z, hZ⟩ : ∃ Z, Z = Y.alloc (.cells #[.int .u64 p, .int .i64 m, .int .i64 0, .bool neg, .slice none 0 0, .int .i64 0] 26) := ⟨_, rfl⟩
  have hb2 : Below Y.heap.size Y Z := by rw [hZ]; exact fbone _
  have hr2 : Z.heap[Y.heap.size]? = some (.cells #[.int .u64 p, .int .i64 m, .int .i64 0, .bool neg, .slice none 0 0, .int .i64 0] 26 (0, 0)) := by rw [hZ]; exact box_row (Below.refl _ _)
  have hFZ := Lib.hid (hF.out.below hb2)
  have hr1 := keep_row hb2 HR1.out
  have HB2 := Lib.hid (HAB.out.trans (hb2.mono HAB.out.size))
  go_upto_region 2 with fail
  rw [← hZ]
  clear hZ hb2
  obtain ⟨⟨x0, x1, x2, x3, x4, x5⟩, g0, g1, g2, g3, g4, g5⟩ := row6 hr1
  obtain ⟨⟨y0, y1, y2, y3, y4, y5⟩, k0, k1, k2, k3, k4, k5⟩ := row6 hr2
  have HZ1 := Lib.hid hr1
  have HZ2 := Lib.hid hr2
  clear hr1 hr2
  rw [hYs] at y0 y1 y2 y3 y4 y5 k0 k1 k2 k3 k4 k5 HZ2
  go_wp2_with fail
  refine (fIsInf hFZ.out).mono ?_
  rintro _ _ ⟨rfl, rfl⟩
  rcases hf with rfl | rfl
  · dsimp only
    rw [show decide (0 = 2) = false from rfl]
    go_wp2_with fail
    refine (fSign b p m 0 a e neg v Z hFZ.out).mono ?_
    rintro _ _ ⟨rfl, rfl⟩
    rw [show sgF 0 neg = 0 from rfl]
    go_wp2_with fail
    have HS := row6_set (x := .int .u64 (p : Int)) (y := .int .i64 (m : Int)) (z := .int .i64 0) (x' := .bool neg) (y' := .slice none 0 0) (z' := .int .i64 0) HZ1.out
    have HB := bset6 (x := .int .u64 (p : Int)) (y := .int .i64 (m : Int)) (z := .int .i64 0) (x' := .bool neg) (y' := .slice none 0 0) (z' := .int .i64 0) HB2.out (Nat.le_refl _)
    obtain ⟨⟨a0, a1, a2, a3, a4, a5⟩, -⟩ := row6 HS
    refine bodyPost_ret (v := .agg #[.int .u64 p, .int .i64 m, .int .i64 0, .bool neg, .slice none 0 0, .int .i64 0]) ?_ rfl ⟨_, rfl, realV_other _ p m _ neg M X (by decide), HB⟩
    simp [results, Tryz.results34, go_sem, a0, a1, a2, a3, a4, a5]
  · dsimp only
    rw [show decide (2 = 2) = true from rfl]
    have hq2 := rowset (i := 2) (.int .i64 2) HZ2.out
    have hq2' : (Z.setCell ⟨w.heap.size + 1, 2, none⟩ (.int .i64 2)).heap[w.heap.size + 1]? = some (.cells #[.int .u64 p, .int .i64 m, .int .i64 2, .bool neg, .slice none 0 0, .int .i64 0] 26 (0, 0)) := hq2
    have hq1 : (Z.setCell ⟨w.heap.size + 1, 2, none⟩ (.int .i64 2)).heap[w.heap.size]? = _ := (heap_setCell_other _ _ _ _ (by simp)).trans HZ1.out
    obtain ⟨⟨z0, z1, z2, z3, z4, z5⟩, -⟩ := row6 hq2'
    obtain ⟨⟨v0, v1, v2, v3, v4, v5⟩, h0, h1, h2, h3, h4, h5⟩ := row6 hq1
    have HQ1 := Lib.hid hq1
    have HBB := Lib.hid (bset (i := 2) (u := .int .i64 2) HB2.out (Nat.le_succ _))
    clear hq1 hq2 hq2'
    go_wp2_with fail
    have HS := row6_set (x := .int .u64 (p : Int)) (y := .int .i64 (m : Int)) (z := .int .i64 2) (x' := .bool neg) (y' := .slice none 0 0) (z' := .int .i64 0) HQ1.out
    have HB := bset6 (x := .int .u64 (p : Int)) (y := .int .i64 (m : Int)) (z := .int .i64 2) (x' := .bool neg) (y' := .slice none 0 0) (z' := .int .i64 0) HBB.out (Nat.le_refl _)
    obtain ⟨⟨a0, a1, a2, a3, a4, a5⟩, -⟩ := row6 HS
    refine bodyPost_ret (v := .agg #[.int .u64 p, .int .i64 m, .int .i64 2, .bool neg, .slice none 0 0, .int .i64 0]) ?_ rfl ⟨_, rfl, realV_other _ p m _ neg M X (by decide), HB⟩
    simp [results, Tryz.results34, go_sem, a0, a1, a2, a3, a4, a5]
set_option maxRecDepth 100000 in
set_option maxHeartbeats 6400000 in
theorem real_one (b p m : Nat) (a e : Int) (neg : Bool) (v : Value) (ws : List Nat) (w : World) {Bx : Nat} (h : FltR w b p m a 1 neg v e) (ho : Own w Bx 105 v (cellsW ws)) (hg : Good ws p) (hp0 : 0 < p) (hp : p ≤ 64000000) (hm : m ≤ 255) (M : Nat) (X : Int) (hM : 0 < M)
    (hq : deq (wv ws) (e - 64 * (ws.length : Int)) M X) (he1 : -1000000000 ≤ e) (he2 : e ≤ 1000000000) (hT : TabW w) :
    Calls Tryz.prog 34 #[.pointer (some ⟨b, 0, none⟩)] w fun e' w' => ∃ z, e' = .returned z ∧ RealV w' z p m 1 neg M X ∧ Below w.heap.size w w' := by
  have hab := (Below.refl w.heap.size w).alloc (Nat.le_refl _) (.cells #[.int .u64 0, .int .i64 0, .int .i64 0, .bool false, .slice none 0 0, .int .i64 0] 26)
  obtain ⟨Y, hY⟩ : ∃ Y, Y = w.alloc (.cells #[.int .u64 0, .int .i64 0, .int .i64 0, .bool false, .slice none 0 0, .int .i64 0] 26) := ⟨_, rfl⟩
  have hr1 : Y.heap[w.heap.size]? = some (.cells #[.int .u64 0, .int .i64 0, .int .i64 0, .bool false, .slice none 0 0, .int .i64 0] 26 (0, 0)) := by rw [hY]; exact box_row (Below.refl _ _)
  rw [← hY] at hab
  have hF := Lib.hid (h.below hab)
  have HR1 := Lib.hid hr1
  have HAB := Lib.hid hab
  have hYs : Y.heap.size = w.heap.size + 1 := by rw [hY]; simp
  have hlt := h.lt
  have hbl := hg.bl
  obtain ⟨hl0, hl, hd, htop, hfit⟩ := hg
  have hw0 := hq.symm.pos hM
  have hod := hq.od hw0
  have hbo := bl_od hw0
  have HO := Lib.hid (ho.below hab)
  have HT := Lib.hid (hT.below hab)
  have HD := Lib.hid hd
  have HF := Lib.hid hfit
  have HBL := Lib.hid hbl
  obtain ⟨N, hN⟩ : ∃ N, N = wv ws := ⟨_, rfl⟩
  obtain ⟨P, hP⟩ : ∃ P, P = bl (od (wv ws)) := ⟨_, rfl⟩
  obtain ⟨L, hL⟩ : ∃ L, L = ws.length := ⟨_, rfl⟩
  have hP0 : 0 < P := by rw [hP]; exact bl_pos (od_pos hw0)
  have hPL : P ≤ 64 * L := by rw [hP, hL, ← hbl]; omega
  have HE : Hid (e - (P : Int) = X + (tz M : Nat)) := Lib.hid (by have := hod.2; rw [hbl] at hbo; omega)
  have HOD : Hid (wv ws / 2 ^ (64 * ws.length - P) = od M) := Lib.hid (by
    rw [← hod.1, show 64 * ws.length - P = tz (wv ws) by rw [hbl] at hbo; omega]; rfl)
  have HW0 := Lib.hid hw0
  have HP := Lib.hid hP
  have HL := Lib.hid hL
  rw [← hL] at hl0 hl
  have hPb : P ≤ 64000000 := by omega
  clear h hr1 hab ho hT hd htop hfit hq hbl hod hbo hN hP hL hw0
  go_enter Tryz.func34, Tryz.ntmps34
  go_upto_region 1 with fail
  rw [← hY]
  clear hY
  go_wp2_with fail
  refine (fPrec hF.out hp).mono ?_
  rintro _ _ ⟨rfl, rfl⟩
  go_wp2_with fail
  refine (fMode hF.out).mono ?_
  rintro _ _ ⟨rfl, rfl⟩
  go_wp2_with fail
  refine (fSignbit b p m 1 a e neg v Y hF.out).mono ?_
  rintro _ _ ⟨rfl, rfl⟩
  obtain ⟨Z, hZ⟩ : ∃ Z, Z = Y.alloc (.cells #[.int .u64 p, .int .i64 m, .int .i64 0, .bool neg, .slice none 0 0, .int .i64 0] 26) := ⟨_, rfl⟩
  have hb2 : Below Y.heap.size Y Z := by rw [hZ]; exact fbone _
  have hr2 : Z.heap[Y.heap.size]? = some (.cells #[.int .u64 p, .int .i64 m, .int .i64 0, .bool neg, .slice none 0 0, .int .i64 0] 26 (0, 0)) := by rw [hZ]; exact box_row (Below.refl _ _)
  have hFZ := Lib.hid (hF.out.below hb2)
  have HZ1 := Lib.hid (keep_row hb2 HR1.out)
  have HB2 := Lib.hid (HAB.out.trans (hb2.mono HAB.out.size))
  have HO2 := Lib.hid (HO.out.below hb2)
  have HT2 := Lib.hid (HT.out.below hb2)
  go_upto_region 2 with fail
  rw [← hZ]
  rw [hYs] at hr2
  have HZ2 := Lib.hid hr2
  have hZs : w.heap.size + 2 ≤ Z.heap.size := by rw [hZ]; simp; omega
  clear hZ hb2 hr2 HO HT HR1 hF HAB
  go_wp2_with fail
  refine (fIsInf hFZ.out).mono ?_
  rintro _ _ ⟨rfl, rfl⟩
  dsimp only
  rw [show decide (1 = 2) = false from rfl]
  go_wp2_with fail
  refine (fSign b p m 1 a e neg v Z hFZ.out).mono ?_
  rintro _ _ ⟨rfl, rfl⟩
  obtain ⟨sg, hsg⟩ : ∃ s, s = sgF 1 neg := ⟨_, rfl⟩
  have q1 : (sg != 0) = true := by rw [hsg]; cases neg <;> rfl
  rw [← hsg]
  clear hsg
  have hb3 : Below Z.heap.size Z (Z.alloc newF) := fbone _
  have HF3 := Lib.hid (hFZ.out.below hb3)
  have HO3 := Lib.hid (HO2.out.below hb3)
  have HT3 := Lib.hid (HT2.out.below hb3)
  have HN3 := Lib.hid (newF_row Z)
  have HB3 := Lib.hid hb3
  have hne3 : Z.heap.size ≠ b := by have := hFZ.out.lt; omega
  clear hb3
  go_wp2_with fail
  refine (mantExp_one Z.heap.size Z.heap.size b 0 0 0 p m 0 0 a e false neg v ws (Z.alloc newF) HN3.out (Nat.le_refl _) HF3.out hne3 HO3.out HD.out (by rw [← HL.out]; exact hl) (by omega) (by omega)).mono ?_
  rintro _ W4 ⟨rfl, r4, h4, o4, b4⟩
  have hb4 := HB3.out.trans b4
  have HF4 := Lib.hid (hFZ.out.below hb4)
  have HT4 := Lib.hid (HT2.out.below hb4)
  have HV4 := Lib.hid ((HO2.out.below hb4).rw' HD.out)
  have H4 := Lib.hid h4
  have O4 := Lib.hid o4
  have HB4 := Lib.hid hb4
  clear h4 o4 b4 hb4
  go_wp2_with fail
  refine (minPrec_one b p m a e neg v ws W4 HF4.out HV4.out HW0.out (by rw [← HL.out]; exact hl) HBL.out HT4.out).mono ?_
  rintro _ _ ⟨rfl, n5, rfl⟩
  rw [← HP.out]
  have H5 : FltR (W4.drewN n5) Z.heap.size p m a 1 neg r4 0 := H4.out
  have O5 : Own (W4.drewN n5) Z.heap.size 105 r4 (cellsW ws) := O4.out.drewN n5
  have B5 : Below Z.heap.size Z (W4.drewN n5) := undrewN' HB4.out
  have T5 : TabW (W4.drewN n5) := HT4.out
  obtain ⟨W5, hW5⟩ : ∃ W5, W5 = W4.drewN n5 := ⟨_, rfl⟩
  rw [← hW5] at H5 O5 B5 T5
  dsimp only
  rw [← hW5]
  clear hW5 H4 O4 HB4 HT4 HF4 HV4
  have b6 : Below W5.heap.size W5 (W5.alloc newF) := fbone _
  have H6 := Lib.hid (H5.below b6)
  have O6 := Lib.hid (O5.below b6)
  have B6 := Lib.hid (B5.trans (b6.mono B5.size))
  have T5h := Lib.hid T5
  have B5h := Lib.hid B5
  have N6 := Lib.hid (newF_row W5)
  have hne6 : W5.heap.size ≠ Z.heap.size := by have := H5.lt; omega
  have hs5 := B5.size
  clear H5 O5 B5 T5 b6
  go_wp2_with fail
  refine (setMantExp_exact W5.heap.size W5.heap.size Z.heap.size 0 0 0 p m 0 0 a 0 (P : Int) false neg r4 ws (W5.alloc newF) N6.out (Nat.le_refl _) H6.out hne6 O6.out HD.out HF.out (by rw [← HL.out]; exact hl0) (by rw [← HL.out]; exact hl) hp0 hp (by omega) (by omega) (by omega) (by omega)).mono ?_
  rintro _ W7 ⟨rfl, r7, h7, o7, b7⟩
  rw [Int.zero_add] at h7
  have b57 : Below W5.heap.size W5 W7 := (fbone (W := W5) newF).trans b7
  have H7 := Lib.hid h7
  have V7 := Lib.hid (o7.rw' HD.out)
  have T7 := Lib.hid (T5h.out.below b57)
  have B7 := Lib.hid (B5h.out.trans (b57.mono hs5))
  clear h7 o7 b7 b57
  go_wp2_with fail
  refine (floatInt_le W5.heap.size p m P 0 neg r7 ws W7 H7.out V7.out HW0.out (by rw [← HL.out]; exact hl) HBL.out T7.out hP0 (by rw [← HL.out]; exact hPL)).mono ?_
  rintro _ W8 ⟨g, rfl, hI, b8⟩
  rw [HOD.out] at hI
  obtain ⟨v8, hg8, row8, o8⟩ := hI
  have d1 : W8.cell? ⟨g, 0 + 1, none⟩ = some v8 := (row_at (i := 1) row8 rfl).1
  have V8 := Lib.hid (o8.rw' (wds_all _))
  have B8 := Lib.hid (B7.out.trans (b8.mono B7.out.size))
  have hN8 : Hid ((wds (od M)).length ≤ 100000000) := Lib.hid (by
    rw [wds_length, nw_bl (od_pos hM)]
    have h1 := HOD.out
    have h2 : bl (od M) ≤ bl (wv ws) := by rw [← h1]; exact bl_mono (Nat.div_le_self _ _)
    have := HBL.out; have := HL.out; omega)
  clear hg8 row8 o8 b8
  go_wp2_with fail
  refine (wordsOf_any g 0 v8 (wds (od M)) W8 d1 V8.out hN8.out).mono ?_
  rintro _ W9 ⟨r9, rfl, o9, b9⟩
  have hS9 := o9.isS
  have B9 := Lib.hid (B8.out.trans (b9.mono B8.out.size))
  have q1 := keep_row B9.out HZ1.out
  have q2 := keep_row B9.out HZ2.out
  have O9 := Lib.hid o9
  have BW9 := Lib.hid (HB2.out.trans (B9.out.mono (by omega)))
  obtain ⟨⟨x0, x1, x2, x3, x4, x5⟩, g0, g1, g2, g3, g4, g5⟩ := row6 q1
  obtain ⟨⟨y0, y1, y2, y3, y4, y5⟩, k0, k1, k2, k3, k4, k5⟩ := row6 q2
  have S2 := rowset (i := 5) (.int .i64 (e - (P : Int))) (rowset (i := 4) r9 (rowset (i := 2) (.int .i64 1) q2))
  have S2' : (((W9.setCell ⟨w.heap.size + 1, 2, none⟩ (.int .i64 1)).setCell ⟨w.heap.size + 1, 4, none⟩ r9).setCell ⟨w.heap.size + 1, 5, none⟩ (.int .i64 (e - (P : Int)))).heap[w.heap.size + 1]? = some (.cells #[.int .u64 p, .int .i64 m, .int .i64 1, .bool neg, r9, .int .i64 (e - (P : Int))] 26 (0, 0)) := S2
  have S1 : (((W9.setCell ⟨w.heap.size + 1, 2, none⟩ (.int .i64 1)).setCell ⟨w.heap.size + 1, 4, none⟩ r9).setCell ⟨w.heap.size + 1, 5, none⟩ (.int .i64 (e - (P : Int)))).heap[w.heap.size]? = some (.cells #[.int .u64 0, .int .i64 0, .int .i64 0, .bool false, .slice none 0 0, .int .i64 0] 26 (0, 0)) := by
    rw [heap_setCell_other _ _ _ _ (by simp), heap_setCell_other _ _ _ _ (by simp), heap_setCell_other _ _ _ _ (by simp)]; exact q1
  have OS : Own (((W9.setCell ⟨w.heap.size + 1, 2, none⟩ (.int .i64 1)).setCell ⟨w.heap.size + 1, 4, none⟩ r9).setCell ⟨w.heap.size + 1, 5, none⟩ (.int .i64 (e - (P : Int)))) W8.heap.size 23 r9 (cellsW (wds (od M))) :=
    ((o9.away q2 (by decide) 2 _).away (rowset (i := 2) (.int .i64 1) q2) (by decide) 4 _).away (rowset (i := 4) r9 (rowset (i := 2) (.int .i64 1) q2)) (by decide) 5 _
  have BS : Below w.heap.size w (((W9.setCell ⟨w.heap.size + 1, 2, none⟩ (.int .i64 1)).setCell ⟨w.heap.size + 1, 4, none⟩ r9).setCell ⟨w.heap.size + 1, 5, none⟩ (.int .i64 (e - (P : Int)))) := bset (bset (bset BW9.out (Nat.le_succ _)) (Nat.le_succ _)) (Nat.le_succ _)
  obtain ⟨E, hE⟩ : ∃ E, E = e - (P : Int) := ⟨_, rfl⟩
  rw [← hE] at S2' S1 OS BS
  have hE2 : e - (P : Int) = E := hE.symm
  have HEE := Lib.hid hE
  obtain ⟨⟨z0, z1, z2, z3, z4, z5⟩, -⟩ := row6 S2'
  obtain ⟨⟨v0, v1, v2, v3, v4, v5⟩, h0, h1, h2, h3, h4, h5⟩ := row6 S1
  have HS1 := Lib.hid S1
  have HOS := Lib.hid OS
  have HBS := Lib.hid BS
  clear S1 S2 S2' OS BS q1 q2 hE o9 b9 d1
  go_wp2_with fail
  have HS := row6_set (x := .int .u64 (p : Int)) (y := .int .i64 (m : Int)) (z := .int .i64 1) (x' := .bool neg) (y' := r9) (z' := .int .i64 E) HS1.out
  have HB := bset6 (x := .int .u64 (p : Int)) (y := .int .i64 (m : Int)) (z := .int .i64 1) (x' := .bool neg) (y' := r9) (z' := .int .i64 E) HBS.out (Nat.le_refl _)
  obtain ⟨⟨a0, a1, a2, a3, a4, a5⟩, -⟩ := row6 HS
  refine bodyPost_ret (v := .agg #[.int .u64 p, .int .i64 m, .int .i64 1, .bool neg, r9, .int .i64 E]) ?_ rfl ⟨_, rfl, ⟨_, _, _, W8.heap.size, rfl, ?_, wds_all _, fun h => absurd rfl h, fun _ => ⟨rfl, by rw [HEE.out, HE.out]⟩⟩, HB⟩
  · simp [results, Tryz.results34, go_sem, a0, a1, a2, a3, a4, a5]
  · exact HOS.out.same fun hc => by
      have hne : sBlk r9 ≠ w.heap.size := HOS.out.ne_row HS1.out (by decide) hc
      exact heap6_other hne
end Go.Proofs.YtepoeidfkbmenaaGreatDoor

/-
The reference's Has and Shr. No condition.
-/
namespace Go.Proofs.YtepoeidfkbmenaaGreatDoor
open Go.RowKit

theorem bit_dig (x i : Nat) : x / 2 ^ i % 2 = dig x (i / 16) / 2 ^ (i % 16) % 2 := by
  unfold dig
  have h1 : (2 : Nat) ^ i = 65536 ^ (i / 16) * 2 ^ (i % 16) := two_split i
  rw [h1, ← Nat.div_div_eq_div_mul]
  have h2 : (65536 : Nat) = 2 ^ (i % 16) * (2 * 2 ^ (15 - i % 16)) := by
    rw [← Nat.pow_succ', ← Nat.pow_add, show i % 16 + (15 - i % 16).succ = 16 by omega]
  generalize x / 65536 ^ (i / 16) = X
  conv => rhs; rw [h2, Nat.mod_mul_right_div_self, Nat.mod_mul_right_mod]
theorem and1_i64 (x : Nat) (_h : x < 65536) : bits .and .i64 (x : Int) 1 = ((x % 2 : Nat) : Int) := by
  have h1 : (BitVec.ofInt 64 1).toNat = 2 ^ 1 - 1 := by decide
  have key : (BitVec.ofInt 64 (x : Int) &&& BitVec.ofInt 64 1).toNat = ((x : Int) % ((2 ^ 64 : Nat) : Int)).toNat % 2 ^ 1 := by
    rw [BitVec.toNat_and, BitVec.toNat_ofInt, h1, Nat.and_two_pow_sub_one_eq_mod]
  show IntKind.i64.wrap ((BitVec.ofInt 64 (x : Int) &&& BitVec.ofInt 64 1).toNat : Nat) = _
  rw [key, IntKind.wrap_i64]
  omega
set_option maxRecDepth 100000 in
set_option maxHeartbeats 800000 in
theorem spHas (a : Value) (x i : Nat) (w : World) (ha : NatV w a x) (_hx : nl x ≤ 1000000000) (hi : i ≤ 16000000000) :
    Calls Tryz.prog 49 #[a, .int .i64 i] w fun e w' => e = .returned (.bool (decide (x / 2 ^ i % 2 = 1))) ∧ w = w' := by
  have hSa := ha.isS
  have hLa := ha.len
  obtain ⟨L, hL⟩ : ∃ L, L = nl x := ⟨_, rfl⟩
  rw [← hL] at hLa _hx
  have e1 : (i : Int) / 16 = ((i / 16 : Nat) : Int) := by omega
  have e2 : (i : Int) % 16 = ((i % 16 : Nat) : Int) := by omega
  have hbd := bit_dig x i
  obtain ⟨q, hq⟩ : ∃ q, q = i / 16 := ⟨_, rfl⟩
  obtain ⟨s, hs⟩ : ∃ s, s = i % 16 := ⟨_, rfl⟩
  rw [← hq, ← hs] at hbd
  rw [← hq] at e1
  rw [← hs] at e2
  have hs16 : s < 16 := by omega
  have hql : q ≤ 1000000000 := by omega
  by_cases hqL : q < L
  · have c := ha.cell q (by rw [← hL]; exact hqL)
    have hdl := dig_lt x q
    obtain ⟨d, hd⟩ : ∃ d, d = dig x q := ⟨_, rfl⟩
    rw [← hd] at c hdl hbd
    have hS2 : (2 : Int) ^ s = ((2 ^ s : Nat) : Int) := by simp
    obtain ⟨S, hS⟩ : ∃ S, S = 2 ^ s := ⟨_, rfl⟩
    rw [← hS] at hS2 hbd
    have hdq : (d : Int) / (S : Int) = ((d / S : Nat) : Int) := by simp
    have hdl2 : d / S < 65536 := Nat.lt_of_le_of_lt (Nat.div_le_self _ _) hdl
    have han := and1_i64 (d / S) hdl2
    obtain ⟨t, ht⟩ : ∃ t, t = d / S := ⟨_, rfl⟩
    rw [← ht] at hdq han hdl2 hbd
    have hf : (((t % 2 : Nat) : Int) == 1) = decide (x / 2 ^ i % 2 = 1) := by
      rw [hbd]
      rcases (by omega : t % 2 = 0 ∨ t % 2 = 1) with h | h <;> rw [h] <;> rfl
    obtain ⟨u, hu⟩ : ∃ u, u = t % 2 := ⟨_, rfl⟩
    rw [← hu] at han hf
    obtain ⟨B, hB⟩ : ∃ B, B = decide (x / 2 ^ i % 2 = 1) := ⟨_, rfl⟩
    rw [← hB] at hf ⊢
    have t1 : decide ((q : Int) < L) = true := decide_eq_true (by omega)
    clear hd hS ht hu hB hbd ha hL hq hs
    go_enter Tryz.func49, Tryz.ntmps49
    go_wp2
    go_ret
    exact ⟨rfl, rfl⟩
  · have t1 : decide ((q : Int) < L) = false := decide_eq_false (by omega)
    have hf : decide (x / 2 ^ i % 2 = 1) = false := by
      rw [hbd, dig_ge (by rw [← hL]; omega)]; simp
    rw [hf]
    clear hf hbd ha hL hq hs
    go_enter Tryz.func49, Tryz.ntmps49
    go_wp2
    go_ret
    exact ⟨rfl, rfl⟩
/-- A digit of a number that is shifted to the right. -/
theorem dig_shr (x n k : Nat) : (dig x (n / 16 + k) + 65536 * dig x (n / 16 + k + 1)) / 2 ^ (n % 16) % 65536 = dig (x / 2 ^ n) k := by
  have hs : n % 16 < 16 := Nat.mod_lt _ (by decide)
  have h1 : (2 : Nat) ^ n = 65536 ^ (n / 16) * 2 ^ (n % 16) := two_split n
  unfold dig
  rw [h1, Nat.div_div_eq_div_mul]
  have e0 : 65536 ^ (n / 16) * 2 ^ (n % 16) * 65536 ^ k = 65536 ^ (n / 16 + k) * 2 ^ (n % 16) := by rw [Nat.pow_add]; simp only [Nat.mul_comm, Nat.mul_left_comm]
  rw [e0, ← Nat.div_div_eq_div_mul, Nat.pow_succ, ← Nat.div_div_eq_div_mul]
  generalize x / 65536 ^ (n / 16 + k) = X
  generalize n % 16 = s at *
  have h2 : X % 65536 + 65536 * (X / 65536 % 65536) = X % (65536 * 65536) := by rw [Nat.mod_mul]
  rw [h2]
  have h3 : (65536 : Nat) * 65536 = 2 ^ s * (65536 * 2 ^ (16 - s)) := by
    rw [show (65536 : Nat) = 2 ^ 16 from rfl, ← Nat.pow_add, ← Nat.pow_add, ← Nat.pow_add]; congr 1; omega
  rw [h3, Nat.mod_mul_right_div_self, Nat.mod_mul_right_mod]
/-- Shr's loop: k digits are there. -/
def ShrRel (Y B k : Nat) (w : World) (v : Value) (wr : World) : Prop :=
  ∃ ds : List Nat, Own wr B 3 v (cellsN ds) ∧ (∀ d ∈ ds, d < 65536) ∧ ds.length = k ∧ val ds = Y % 65536 ^ k ∧ Below B w wr
theorem ShrRel.step {Y B k r : Nat} {w w1 : World} {v1 : Value} {ds : List Nat} (hd : ∀ d ∈ ds, d < 65536) (hdl : ds.length = k) (hv : val ds = Y % 65536 ^ k) (hr : r = dig Y k)
    (ho : Own w1 B 3 v1 (cellsN ds ++ [.int .i64 (r : Int)])) (hb : Below B w w1) : ShrRel Y B (k + 1) w v1 w1 := by
  rw [cellsN_snoc] at ho
  refine ⟨_, ho, ?_, by simp [hdl], ?_, hb⟩
  · intro z hz
    rcases List.mem_append.1 hz with h | h
    · exact hd z h
    · rw [List.mem_singleton.1 h, hr]; exact dig_lt _ _
  · rw [val_snoc, hdl, mod_succ, hv, hr]
set_option maxRecDepth 100000 in
set_option maxHeartbeats 800000 in
theorem spShr (a : Value) (x n : Nat) (w : World) (ha : NatV w a x) (hx : nl x ≤ 1000000000) (hn : n ≤ 16000000000) :
    Calls Tryz.prog 50 #[a, .int .i64 n] w fun e w' => ∃ r, e = .returned r ∧ NPost (x / 2 ^ n) w r w' := by
  have hSa := ha.isS
  have hLa := ha.len
  obtain ⟨L, hL⟩ : ∃ L, L = nl x := ⟨_, rfl⟩
  rw [← hL] at hLa hx
  have e1 : (n : Int) / 16 = ((n / 16 : Nat) : Int) := by omega
  have e2 : (n : Int) % 16 = ((n % 16 : Nat) : Int) := by omega
  have hdg := dig_shr x n
  have hx2 : x < 65536 ^ L := by rw [hL]; exact lt_nl x
  have h2n : (2 : Nat) ^ n = 65536 ^ (n / 16) * 2 ^ (n % 16) := two_split n
  obtain ⟨q, hq⟩ : ∃ q, q = n / 16 := ⟨_, rfl⟩
  obtain ⟨s, hs⟩ : ∃ s, s = n % 16 := ⟨_, rfl⟩
  rw [← hq, ← hs] at hdg h2n
  rw [← hq] at e1
  rw [← hs] at e2
  have hs16 : s < 16 := by omega
  have hql : q ≤ 1000000000 := by omega
  have hfin : ∀ k, L ≤ q + k → x / 2 ^ n % 65536 ^ k = x / 2 ^ n := fun k hk => by
    refine Nat.mod_eq_of_lt (Nat.div_lt_of_lt_mul ?_)
    rw [h2n]
    have h3 : x < 65536 ^ (q + k) := Nat.lt_of_lt_of_le hx2 (Nat.pow_le_pow_right (by decide) hk)
    rw [Nat.pow_add] at h3
    have h4 := Nat.two_pow_pos s
    calc x < 65536 ^ q * 65536 ^ k := h3
      _ ≤ 65536 ^ q * 2 ^ s * 65536 ^ k := Nat.mul_le_mul_right _ (Nat.le_mul_of_pos_right _ h4)
  obtain ⟨Y, hY⟩ : ∃ Y, Y = x / 2 ^ n := ⟨_, rfl⟩
  rw [← hY] at hfin hdg ⊢
  have hS2 : (2 : Int) ^ s = ((2 ^ s : Nat) : Int) := by simp
  obtain ⟨S, hS⟩ : ∃ S, S = 2 ^ s := ⟨_, rfl⟩
  rw [← hS] at hS2 hdg
  have HL := Lib.hid hL
  have HA := Lib.hid ha
  have HF := Lib.hid hfin
  have HG := Lib.hid hdg
  clear hL ha hfin hdg hx2 h2n hq hs hY hS
  go_enter Tryz.func50, Tryz.ntmps50
  go_wp2
  go_loopw [5, 6] (fun v i wr => ∃ k : Nat, (k = 0 ∨ q + k ≤ L) ∧ i = .int .i64 ((q + k : Nat) : Int) ∧ ShrRel Y w.heap.size k w v wr) (fun _ i _ => L - (intOf i).toNat)
  case atStart => exact ⟨0, .inl rfl, rfl, [], Own.zero _ _ _ _ _, by simp, rfl, by simp [val, Nat.mod_one], (Below.refl _ _).alloc (Nat.le_refl _) _⟩
  case round =>
    obtain ⟨k, hk, rfl, ds, ho, hd, hdl, hv, hbl⟩ := hrel
    have Hd := Lib.hid hd
    have Hdl := Lib.hid hdl
    have Hv := Lib.hid hv
    have hbz := hbl.size
    have Hcl := Lib.hid (cellsN_length ds)
    have hkk : k ≤ 1000000000 := by omega
    clear hd hdl hv
    obtain ⟨j, hj⟩ : ∃ j, j = q + k := ⟨_, rfl⟩
    have hjl : j ≤ 2000000000 := by omega
    rw [← hj]
    by_cases hka : j < L
    · have ca := (HA.out.below hbl).cell j (by rw [← HL.out]; exact hka)
      have cb : j + 1 < L → _ := fun h => (HA.out.below hbl).cell (j + 1) (by rw [← HL.out]; exact h)
      have g1 := dig_lt x j
      have g2 := dig_lt x (j + 1)
      have hyz : ¬ j + 1 < L → dig x (j + 1) = 0 := fun h => dig_ge (by rw [← HL.out]; omega)
      have hG := HG.out k
      rw [← hj] at hG
      obtain ⟨d, hdd⟩ : ∃ d, d = dig x j := ⟨_, rfl⟩
      obtain ⟨c, hcc⟩ : ∃ c, c = dig x (j + 1) := ⟨_, rfl⟩
      rw [← hdd] at ca g1 hG
      rw [← hcc] at cb hyz g2 hG
      have t0 : decide (j < L) = true := decide_eq_true hka
      obtain ⟨u, hu⟩ : ∃ u, u = d + 65536 * c := ⟨_, rfl⟩
      rw [← hu] at hG
      have hq1 : (u : Int) / (S : Int) = ((u / S : Nat) : Int) := by simp
      have hul : u / S ≤ u := Nat.div_le_self _ _
      obtain ⟨z, hz⟩ : ∃ z, z = u / S := ⟨_, rfl⟩
      rw [← hz] at hq1 hul hG
      have hr2 : (z : Int) % 65536 = ((z % 65536 : Nat) : Int) := by simp
      obtain ⟨r, hr⟩ : ∃ r, r = z % 65536 := ⟨_, rfl⟩
      rw [← hr] at hr2 hG
      have Hg := Lib.hid hG
      have fin : ∀ (v1 : Value) (w1 : World), Own w1 w.heap.size 3 v1 (cellsN ds ++ [.int .i64 (r : Int)]) → Below w.heap.size w w1 → ShrRel Y w.heap.size (k + 1) w v1 w1 :=
        fun v1 w1 h3 h4 => ShrRel.step Hd.out Hdl.out Hv.out Hg.out h3 h4
      have Fin := Lib.hid fin
      have hdlk : ds.length ≤ 1000000000 := by have := Hdl.out; omega
      have Hj := Lib.hid hj
      clear fin hG hr hz hcc hdd hj
      rcases (by omega : j + 1 < L ∨ ¬ j + 1 < L) with h | h
      case' inl =>
        have cb' := cb h
        have t1 : decide (j + 1 < L) = true := decide_eq_true h
        have eu : (d : Int) + 65536 * (c : Int) = (u : Int) := by omega
      case' inr =>
        have cb' := hyz h
        have t1 : decide (j + 1 < L) = false := decide_eq_false h
        have eu : d = u := by omega
        subst eu
        clear cb'
      all_goals
        clear hu hyz cb
        go_wp2_with (at_builtin; refine wpList_append_O rfl _ _ _ _ rfl elemN w.heap.size _ _ rfl (ho.alloc _) _ rfl 1 [.int .i64 _] (srcOne Tryz.underlying34 wr _ _) ?_ ?_ ?_ ?_)
        · rw [Hcl.out]; unfold maxLen; omega
        · rw [Hcl.out]; omega
        · simp; omega
        · intro v1 w1 ho1 hb1 _ _ _
          have hs := Fin.out v1 w1 ho1 ((hbl.alloc hbz _).trans hb1)
          have Hs := Lib.hid hs
          clear hs ho1
          go_wp2
          refine ⟨⟨k + 1, .inr (by have := Hj.out; omega), ?_, Hs.out⟩, by simp [intOf]; omega⟩
          have := Hj.out
          exact congrArg (Value.int .i64) (by omega)
    · have t0 : decide (j < L) = false := decide_eq_false hka
      have Hj := Lib.hid hj
      clear hj
      go_wp2_with fail
      refine (spTrim _ ds wr ho.rl Hd.out (by have := Hdl.out; omega)).mono ?_
      rintro _ _ ⟨r, rfl, hr, rfl⟩
      have Hr := Lib.hid hr
      clear hr
      go_wp2
      go_ret
      refine ⟨_, rfl, ?_, hbl⟩
      have := HF.out k (by have := Hj.out; omega)
      rw [← this, ← Hv.out]
      exact Hr.out
end Go.Proofs.YtepoeidfkbmenaaGreatDoor

/-
The reference's split, Odd, away, Cut. No condition.
-/
namespace Go.Proofs.YtepoeidfkbmenaaGreatDoor
open Go.RowKit

theorem low_sub (x n : Nat) : x - x / 2 ^ n * 2 ^ n = x % 2 ^ n := by have := Nat.div_add_mod x (2 ^ n); rw [Nat.mul_comm] at this; omega
theorem lef_cmp {R D : Nat} (h : R ≠ 0) : 2 + cmpN (R + R) D = ((lef R D 0 : Nat) : Int) := by
  unfold lef
  rw [if_neg (by omega)]
  rcases Nat.lt_trichotomy (2 * R) D with c | c | c
  · rw [if_pos c, cmpN_lt (by omega)]; rfl
  · rw [if_neg (by omega), if_pos ⟨c, rfl⟩, show R + R = D by omega, cmpN_eq]; rfl
  · rw [if_neg (by omega), if_neg (by omega), cmpN_gt (by omega)]; rfl
theorem nl_sub_le {a b : Nat} (h : a ≤ b) (k : Nat) (hb : nl b ≤ k) : nl a ≤ k := Nat.le_trans (nl_mono h) hb
set_option maxRecDepth 100000 in
set_option maxHeartbeats 1600000 in
theorem spSplit (a : Value) (x n : Nat) (w : World) (ha : NatV w a x) (hx : nl x ≤ 100000000) (hn : n ≤ 1600000000) :
    Calls Tryz.prog 74 #[a, .int .i64 n] w fun e w' => ∃ r, e = .returned (.tuple #[r, .int .i64 ((lef (x % 2 ^ n) (2 ^ n) 0 : Nat) : Int)]) ∧ NPost (x / 2 ^ n) w r w' := by
  have hSa := ha.isS
  have Ha := Lib.hid ha
  have hq : nl (x / 2 ^ n) ≤ 1000000000 := Nat.le_trans (nl_mono (Nat.div_le_self x _)) (by omega)
  have hq2 : nl (x / 2 ^ n * 2 ^ n) ≤ 1000000000 := Nat.le_trans (nl_mono (Nat.div_mul_le_self x _)) (by omega)
  have hle : x / 2 ^ n * 2 ^ n ≤ x := Nat.div_mul_le_self x _
  have hlow := low_sub x n
  have hrl : x % 2 ^ n ≤ x := Nat.mod_le _ _
  have hnr : nl (x % 2 ^ n) ≤ 100000000 := Nat.le_trans (nl_mono hrl) hx
  have hnD : nl (2 ^ n) ≤ 1000000000 := by rw [nl_two]; omega
  obtain ⟨D, hD⟩ : ∃ D, D = 2 ^ n := ⟨_, rfl⟩
  have hB : ∀ W : World, Calls Tryz.prog 95 #[.int .i64 n] W fun e w' => ∃ r, e = .returned r ∧ NPost D W r w' := fun W => by rw [hD]; exact spBit n W (by omega)
  have hSh : ∀ (W : World) (v : Value), NatV W v (x / D) → Calls Tryz.prog 24 #[v, .int .i64 n] W fun e w' => ∃ r, e = .returned r ∧ NPost (x / D * D) W r w' := fun W v h => by rw [hD] at h ⊢; exact spShl v _ n W h hq (by omega)
  rw [← hD] at hq2 hle hlow hnr hnD hrl hq ⊢
  have HSr : Hid (Calls Tryz.prog 50 #[a, .int .i64 n] w fun e w' => ∃ r, e = .returned r ∧ NPost (x / D) w r w') := Lib.hid (by rw [hD]; exact spShr a x n w Ha.out (by omega) (by omega))
  have HBit := Lib.hid hB
  have HShl := Lib.hid hSh
  have HLow := Lib.hid hlow
  have hR2 : nl (x % D + x % D) ≤ 1000000000 := by
    have h1 : x % D + x % D < 65536 ^ (nl (x % D) + 1) := by have := lt_nl (x % D); rw [Nat.pow_succ]; omega
    have := nl_le h1; omega
  obtain ⟨R, hR⟩ : ∃ R, R = x % D := ⟨_, rfl⟩
  obtain ⟨q, hqq⟩ : ∃ q, q = x / D := ⟨_, rfl⟩
  rw [← hR] at HLow hnr hR2 ⊢
  rw [← hqq] at HSr HShl HLow hq hq2 hle ⊢
  have HLe := Lib.hid hle
  clear hD hB hSh hlow hR hqq ha hrl hle
  go_enter Tryz.func74, Tryz.ntmps74
  go_wp2_with fail
  refine HSr.out.mono ?_
  rintro _ w1 ⟨r1, rfl, hn1, hb1⟩
  have HN1 := Lib.hid hn1
  have hS1 := hn1.isS
  have HB1 := Lib.hid hb1
  clear hn1 hb1
  go_wp2_with fail
  refine (HShl.out w1 r1 HN1.out).mono ?_
  rintro _ w2 ⟨r2, rfl, hn2, hb2⟩
  have HN2 := Lib.hid hn2
  have hS2 := hn2.isS
  have HB2 := Lib.hid (bthen HB1.out hb2)
  have hx2 : nl x ≤ 1000000000 := by omega
  have HN12 := Lib.hid (HN1.out.below hb2)
  clear hn2 hb2
  go_wp2_with fail
  refine (spSub a r2 x (q * D) w2 (Ha.out.below HB2.out) HN2.out hx2 HLe.out).mono ?_
  rintro _ w3 ⟨r3, rfl, hn3, hb3⟩
  rw [HLow.out] at hn3
  have hS3 := hn3.isS
  have hL3 := hn3.len
  have HN3 := Lib.hid hn3
  have HB3 := Lib.hid (bthen HB2.out hb3)
  have HN13 := Lib.hid (HN12.out.below hb3)
  clear hn3 hb3
  by_cases hR0 : R = 0
  · have t0 : ((nl R : Int) == 0) = true := by rw [hR0]; rfl
    have HLZ : Hid (((lef R D 0 : Nat) : Int) = 0) := Lib.hid (by rw [hR0, lef_exact]; rfl)
    have h0 : nl R = 0 := by rw [hR0]; rfl
    rw [h0] at hL3
    clear hR0 t0 h0
    go_wp2
    go_ret2
    refine ⟨r1, ?_, HN13.out, HB3.out⟩
    rw [HLZ.out]; rfl
  · have hp := nl_pos (Nat.pos_of_ne_zero hR0)
    have t0 : ((nl R : Int) == 0) = false := by rw [beq_eq_false_iff_ne]; omega
    have HLC := Lib.hid (lef_cmp (D := D) hR0)
    clear hR0 hp
    go_wp2_with fail
    refine (spAdd r3 r3 R R w3 HN3.out HN3.out (by omega) (by omega)).mono ?_
    rintro _ w4 ⟨r4, rfl, hn4, hb4⟩
    have HN4 := Lib.hid hn4
    have hS4 := hn4.isS
    have HB4 := Lib.hid (bthen HB3.out hb4)
    have HN14 := Lib.hid (HN13.out.below hb4)
    clear hn4 hb4
    go_wp2_with fail
    refine (HBit.out w4).mono ?_
    rintro _ w5 ⟨r5, rfl, hn5, hb5⟩
    have HN5 := Lib.hid hn5
    have hS5 := hn5.isS
    have HB5 := Lib.hid (bthen HB4.out hb5)
    have HN15 := Lib.hid (HN14.out.below hb5)
    have HN45 := Lib.hid (HN4.out.below hb5)
    clear hn5 hb5
    go_wp2_with fail
    refine (spCmp r4 r5 (R + R) D w5 HN45.out HN5.out hR2 hnD).mono ?_
    rintro _ w6 ⟨rfl, hb6⟩
    have HB6 := Lib.hid (bthen HB5.out hb6)
    have HN16 := Lib.hid (HN15.out.below hb6)
    have hcb := cmpN_bd (R + R) D
    have hlc := HLC.out
    obtain ⟨c, hc⟩ : ∃ c, c = cmpN (R + R) D := ⟨_, rfl⟩
    rw [← hc] at hcb hlc ⊢
    have HC := Lib.hid hlc
    clear hb6 hc hlc
    go_wp2
    go_ret2
    refine ⟨r1, ?_, HN16.out, HB6.out⟩
    rw [← HC.out]; rfl
theorem odd_low {x k : Nat} (h : 0 < x) (hk : k < tz x) : x / 2 ^ k % 2 = 0 := by
  have h1 := tz_low h (show k + 1 ≤ tz x by omega)
  have h2 := Nat.mod_pow_succ (x := x) (b := 2) (k := k)
  rw [h1] at h2
  have h3 := Nat.two_pow_pos k
  have h4 : 2 ^ k * (x / 2 ^ k % 2) = 0 := by omega
  exact (Nat.mul_eq_zero.1 h4).resolve_left (by omega)
theorem odd_top {x : Nat} (h : 0 < x) : x / 2 ^ tz x % 2 = 1 := (od_tz h).2
set_option maxRecDepth 100000 in
set_option maxHeartbeats 800000 in
theorem spOdd (a : Value) (x : Nat) (w : World) (ha : NatV w a x) (hx : nl x ≤ 100000000) (h0 : 0 < x) :
    Calls Tryz.prog 31 #[a] w fun e w' => ∃ r, e = .returned (.tuple #[r, .int .i64 (tz x : Nat)]) ∧ NPost (od x) w r w' := by
  have hSa := ha.isS
  have Ha := Lib.hid ha
  have H0 := Lib.hid h0
  have htl : tz x ≤ 1600000000 := by have := tz_le h0; have := bl_nl x; omega
  obtain ⟨t, ht⟩ : ∃ t, t = tz x := ⟨_, rfl⟩
  rw [← ht] at htl ⊢
  have HT := Lib.hid ht
  have hx2 : nl x ≤ 1000000000 := by omega
  clear ha ht
  go_enter Tryz.func31, Tryz.ntmps31
  go_wp2
  go_loopw [4] (fun i wr => ∃ k : Nat, k ≤ t ∧ i = .int .i64 k ∧ w = wr) (fun i _ => t - (intOf i).toNat)
  case atStart => exact ⟨0, Nat.zero_le _, rfl, rfl⟩
  case round =>
    obtain ⟨k, hk, rfl, rfl⟩ := hrel
    go_wp2_with fail
    refine (spHas a x k w Ha.out hx2 (by omega)).mono ?_
    rintro _ _ ⟨rfl, rfl⟩
    by_cases hkt : k < t
    · rw [show decide (x / 2 ^ k % 2 = 1) = false by rw [odd_low H0.out (by rw [← HT.out]; exact hkt)]; rfl]
      go_wp2
      exact ⟨⟨k + 1, by omega, by simp, trivial⟩, by simp [intOf]; omega⟩
    · have hkk : k = t := by omega
      subst hkk
      rw [show decide (x / 2 ^ k % 2 = 1) = true by rw [HT.out, odd_top H0.out]; rfl]
      go_wp2_with fail
      refine (spShr a x k w Ha.out hx2 (by omega)).mono ?_
      rintro _ w1 ⟨r1, rfl, hn1, hb1⟩
      have hS1 := hn1.isS
      have HN := Lib.hid hn1
      have HB := Lib.hid hb1
      clear hn1 hb1
      go_wp2
      go_ret2
      refine ⟨_, rfl, ?_, HB.out⟩
      have := HN.out
      rw [HT.out] at this
      exact this
set_option maxRecDepth 100000 in
set_option maxHeartbeats 3200000 in
theorem spAway (neg odd : Bool) (left mode : Nat) (w : World) (hl : left ≤ 3) (hm : mode ≤ 5) :
    Calls Tryz.prog 75 #[.bool neg, .bool odd, .int .i64 left, .int .i64 mode] w fun e w' => e = .returned (.bool (awy neg odd left mode)) ∧ w = w' := by
  rcases (by omega : left = 0 ∨ left = 1 ∨ left = 2 ∨ left = 3) with rfl | rfl | rfl | rfl <;> rcases (by omega : mode = 0 ∨ mode = 1 ∨ mode = 2 ∨ mode = 3 ∨ mode = 4 ∨ mode = 5) with rfl | rfl | rfl | rfl | rfl | rfl <;> cases neg <;> cases odd <;>
    (go_enter Tryz.func75, Tryz.ntmps75) <;> go_wp2 <;> go_ret <;> first | exact ⟨rfl, rfl⟩ | exact ⟨rfl, trivial⟩ | exact ⟨trivial, trivial⟩ | trivial
end Go.Proofs.YtepoeidfkbmenaaGreatDoor

/-
The thin package's Cmp, the statements' end. No condition.
-/
namespace Go.Proofs.YtepoeidfkbmenaaGreatDoor
open Go.RowKit

theorem FloatAt.below {w w' : World} {B g p m f M : Nat} {neg : Bool} {e : Int} (h : FloatAt w B g p m f neg M e) (hb : Below w.heap.size w w') : FloatAt w' B g p m f neg M e := by
  obtain ⟨h1, r, x, h2, h3⟩ := h
  exact ⟨h1, r, x, h2.below hb, fun hf => ⟨(h3 hf).1, (h3 hf).2.below hb⟩⟩
/-- The order of two Reals as Cmp reckons it. -/
def cmpRV (f1 : Nat) (n1 : Bool) (M1 : Nat) (e1 : Int) (f2 : Nat) (n2 : Bool) (M2 : Nat) (e2 : Int) : Int :=
  cmpFV f1 n1 ((bl M1 : Nat) + e1) (topN M1) f2 n2 ((bl M2 : Nat) + e2) (topN M2)
theorem cmpFV_eq {f1 f2 : Nat} {n1 n2 : Bool} {x1 x2 y1 y2 : Int} {xs ys xs' ys' : List Nat} (h1 : f1 = 1 → x1 = y1 ∧ xs = xs') (h2 : f2 = 1 → x2 = y2 ∧ ys = ys') (hf1 : f1 ≤ 2) (hf2 : f2 ≤ 2) :
    cmpFV f1 n1 x1 xs f2 n2 x2 ys = cmpFV f1 n1 y1 xs' f2 n2 y2 ys' := by
  by_cases c1 : f1 = 1
  · by_cases c2 : f2 = 1
    · rw [(h1 c1).1, (h2 c2).1, (h1 c1).2, (h2 c2).2]
    · rw [(h1 c1).1, (h1 c1).2]
      have : f2 = 0 ∨ f2 = 2 := by omega
      rcases this with rfl | rfl <;> subst c1 <;> cases n1 <;> cases n2 <;> simp [cmpFV, ordV]
  · have c : f1 = 0 ∨ f1 = 2 := by omega
    have d : f2 = 0 ∨ f2 = 1 ∨ f2 = 2 := by omega
    rcases c with rfl | rfl <;> rcases d with rfl | rfl | rfl <;> cases n1 <;> cases n2 <;> simp [cmpFV, ordV]
theorem topN_lt {M : Nat} : ∀ d ∈ topN M, d < 18446744073709551616 := wdsN_lt
theorem topN_if {f M : Nat} (h : f = 1 → nw M ≤ 1000000) : (if f = 1 then topN M else []).length ≤ 1000000000 := by
  split
  · rename_i hf; rw [topN_length]; have := h hf; omega
  · exact Nat.zero_le _
theorem RealOk.form {P E p m f : Nat} {ws : List Nat} {e : Int} (h : RealOk P E p m f ws e) : f ≤ 2 := by
  obtain ⟨_, _, _, h | h | ⟨h, _⟩⟩ := h <;> omega
theorem RealOk.len {P E p m f : Nat} {ws : List Nat} {e : Int} (h : RealOk P E p m f ws e) (hf : f = 1) : ws.length ≤ 1000000 := by
  obtain ⟨_, _, _, h | h | h⟩ := h
  · omega
  · omega
  · exact h.2.2.2.1
theorem ks24 {W X : World} {k l : Nat} {a b c d e f a' b' c' d' e' f' : Value} {T : TypeId} (hr : W.heap[k]? = some (.cells #[a, b, c, d, e, f] T (0, 0))) (hq : W.heap[l]? = some (.cells #[a', b', c', d', e', f'] T (0, 0))) (h : Below W.heap.size W X) :
    Below W.heap.size W X ∧ (X.cell? ⟨k, 0, none⟩ = some a ∧ X.cell? ⟨k, 1, none⟩ = some b ∧ X.cell? ⟨k, 2, none⟩ = some c ∧ X.cell? ⟨k, 3, none⟩ = some d ∧ X.cell? ⟨k, 4, none⟩ = some e ∧ X.cell? ⟨k, 5, none⟩ = some f) ∧
    X.cell? ⟨l, 0, none⟩ = some a' ∧ X.cell? ⟨l, 1, none⟩ = some b' ∧ X.cell? ⟨l, 2, none⟩ = some c' ∧ X.cell? ⟨l, 3, none⟩ = some d' ∧ X.cell? ⟨l, 4, none⟩ = some e' ∧ X.cell? ⟨l, 5, none⟩ = some f' :=
  ⟨h, (ks12 hr h).2, (ks12 hq h).2⟩
def endV (f : Nat) (neg : Bool) : Int := if f = 2 then (if neg then -1 else 1) else 0
end Go.Proofs.YtepoeidfkbmenaaGreatDoor
