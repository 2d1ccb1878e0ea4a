/-
Texts of this proof, joined: IfI IfJ. No condition.
-/
import Derived.Test.YtjapoobegjoblaaDoorK03
import Derived.Test.YtjapoobegjoblaaDoorK16
import Derived.Test.YtjapoobegjoblaaDoorK21
import Derived.Test.YtjapoobegjoblaaDoorK22
import Derived.Test.YtjapoobegjoblaaDoorK24
/-
Floats: Int of any value. No condition.
-/
namespace Go.Proofs.YtjapoobegjoblaaDoor
open Go.RowKit

set_option maxRecDepth 100000 in
set_option maxHeartbeats 3200000 in
theorem floatInt_gt (b p m k : Nat) (a : Int) (neg : Bool) (v : Value) (ws : List Nat) (w : World) (h : FltR w b p m a 1 neg v (k : Int)) (hv : RW w v ws) (h0 : 0 < wv ws) (hl : ws.length ≤ 1000000) (htop : bl (wv ws) = 64 * ws.length) (hT : TabW w)
    (hk : 64 * ws.length < k) (hkb : k ≤ 1000000000) :
    Calls Tryd.prog 57 #[.pointer (some ⟨b, 0, none⟩), .pointer none] w fun e' w' => ∃ g, e' = .returned (.tuple #[.pointer (some ⟨g, 0, none⟩), .int .i8 (accI neg (decide (bl (od (wv ws)) ≤ k)))]) ∧ IntP w' w.heap.size g neg (wv ws * 2 ^ (k - 64 * ws.length)) ∧ Below w.heap.size w w' := by
  have hS := hv.isS
  have hlen0 : 0 < ws.length := by
    have := bl_pos h0
    omega
  have hk0 : 0 < k := by omega
  have hL := hv.len
  have hrow : (w.alloc (.cells #[.bool false, .slice none 0 0] 126)).heap[w.heap.size]? = some (.cells #[.bool false, .slice none 0 0] 126 (0, 0)) := box_row (Below.refl _ _)
  obtain ⟨X, hX⟩ : ∃ X, X = w.alloc (.cells #[.bool false, .slice none 0 0] 126) := ⟨_, rfl⟩
  have hab := (Below.refl w.heap.size w).alloc (Nat.le_refl _) (.cells #[.bool false, .slice none 0 0] 126)
  rw [← hX] at hrow hab
  have hF := h.below hab
  obtain ⟨c0, c1, c2, c3, c4, c5, c6⟩ := h.cells
  have hR := hrow
  obtain ⟨L, hLL⟩ : ∃ L, L = ws.length := ⟨_, rfl⟩
  obtain ⟨P, hP⟩ : ∃ P, P = bl (od (wv ws)) := ⟨_, rfl⟩
  have HF := Lib.hid hF
  have HV := Lib.hid hv
  have HWS : Hid (ws = wds (wv ws)) := Lib.hid (wds_of hv.lt (by rw [nw_bl h0, htop]; omega))
  have HP0 := Lib.hid h0
  have HNW : Hid (nw (wv ws) ≤ 10000000) := Lib.hid (by rw [nw_bl h0, htop]; omega)
  have HMP := Lib.hid (fun (W : World) (hb : Below w.heap.size w W) => minPrec_one b p m a (k : Int) neg v ws W (h.below hb) (hv.below hb) h0 hl htop (hT.below hb))
  rw [← hP] at HMP ⊢
  have HAB := Lib.hid hab
  have HR := Lib.hid hR
  rw [← hLL] at hL hk hl hlen0 ⊢
  have hne : ¬ b = w.heap.size := fun hc => by have := h.lt; omega
  have hne' : ¬ w.heap.size = b := fun hc => hne hc.symm
  have hPb : P ≤ 64000000 := by
    have h1 := bl_od h0
    rw [hP]; rw [htop, ← hLL] at h1; omega
  have t1 : decide ((k : Int) ≤ 0) = false := decide_eq_false (by omega)
  have hXs := hab.size
  have HLL := Lib.hid hLL
  clear h hv h0 htop hT hab hrow hF hR hP hLL
  go_enter Tryd.func57, Tryd.ntmps57
  go_upto_region 3 with fail
  rw [← hX]
  clear hX c0 c1 c2 c3 c4 c5 c6
  obtain ⟨c0, c1, c2, c3, c4, c5, c6⟩ := HF.out.cells
  have c3' : X.cell? ⟨b, 3, none⟩ = some (.int .u8 1) := c3
  clear c3
  go_wp2_with fail
  refine (makeAcc_any neg X).mono ?_
  rintro _ _ ⟨rfl, rfl⟩
  obtain ⟨ac, hac⟩ : ∃ ac : Int, ac = (if neg then 1 else -1) := ⟨_, rfl⟩
  rw [← hac]
  have HAC := Lib.hid hac
  clear hac
  go_wp2_with fail
  refine (HMP.out X HAB.out).mono ?_
  rintro _ _ ⟨rfl, n1, rfl⟩
  go_upto_if 53 with fail
  go_cut [6] (fun x wx => x = .int .i8 (accI neg (decide (P ≤ k))) ∧ X.drewN n1 = wx)
  case first =>
    by_cases hPk : P ≤ k
    · have q1 : decide (P ≤ k) = true := decide_eq_true hPk
      go_wp2_with fail
      go_meet
      exact ⟨by rw [q1]; rfl, rfl⟩
    · have q1 : decide (P ≤ k) = false := decide_eq_false hPk
      go_wp2_with fail
      go_meet
      exact ⟨by rw [q1, HAC.out]; rfl, rfl⟩
  case rest =>
    obtain ⟨rfl, rfl⟩ := hcut
    obtain ⟨A, hA⟩ : ∃ A, A = accI neg (decide (P ≤ k)) := ⟨_, rfl⟩
    rw [← hA]
    have HAA := Lib.hid hA
    clear hA HAC
    have hR : (X.drewN n1).heap[w.heap.size]? = some (.cells #[.bool false, .slice none 0 0] 126 (0, 0)) := HR.out
    have hF : FltR (X.drewN n1) b p m a 1 neg v (k : Int) := HF.out
    have hB1 : Below w.heap.size w (X.drewN n1) := undrewN' HAB.out
    obtain ⟨W, hW⟩ : ∃ W, W = X.drewN n1 := ⟨_, rfl⟩
    rw [← hW] at hR hF hB1 ⊢
    clear hW HR HF HMP HAB c0 c1 c2 c3' c4 c5 c6
    have r0 : W.cell? ⟨w.heap.size, 0, none⟩ = some (.bool false) := (row_at (i := 0) hR rfl).1
    have r1 : W.cell? ⟨w.heap.size, 1, none⟩ = some (.slice none 0 0) := (row_at (i := 1) hR rfl).1
    have z0 := frozen_of_row W w.heap.size 0 _ _ hR
    have z1 := frozen_of_row W w.heap.size 1 _ _ hR
    obtain ⟨c0, c1, c2, c3, c4, c5, c6⟩ := hF.cells
    have hWs := hB1.size
    have R1 := rowset (i := 0) (.bool neg) hR
    have hB2 := bset (i := 0) (u := .bool neg) hB1 (Nat.le_refl _)
    have R1c : (W.setCell ⟨w.heap.size, 0, none⟩ (.bool neg)).heap[w.heap.size]? = some (.cells #[.bool neg, .slice none 0 0] 126 (0, 0)) := R1
    have F1 : FltR (W.setCell ⟨w.heap.size, 0, none⟩ (.bool neg)) b p m a 1 neg v (k : Int) := (heap_setCell_other _ _ _ _ (by simpa using hne)).trans hF
    have s1 : (W.setCell ⟨w.heap.size, 0, none⟩ (.bool neg)).cell? ⟨w.heap.size, 1, none⟩ = some (.slice none 0 0) := (row_at (i := 1) R1c rfl).1
    obtain ⟨d0, d1, d2, d3, d4, d5, d6⟩ := F1.cells
    have HR1 := Lib.hid R1c
    have HB2 := Lib.hid hB2
    have hsz : w.heap.size ≤ (W.setCell ⟨w.heap.size, 0, none⟩ (.bool neg)).heap.size := hB2.size
    have fin : ∀ (nq : Nat) (w2 : World) (r : Value) (N : Nat), Own w2 (W.setCell ⟨w.heap.size, 0, none⟩ (.bool neg)).heap.size 138 r (cellsW (wds N)) → Below (W.setCell ⟨w.heap.size, 0, none⟩ (.bool neg)).heap.size ((W.setCell ⟨w.heap.size, 0, none⟩ (.bool neg)).drewN nq) w2 →
        w2.frozen? ⟨w.heap.size, 1, none⟩ = false ∧ w2.cell? ⟨w.heap.size, 1, none⟩ = some (.slice none 0 0) ∧ IntP (w2.setCell ⟨w.heap.size, 1, none⟩ r) w.heap.size w.heap.size neg N ∧ Below w.heap.size w (w2.setCell ⟨w.heap.size, 1, none⟩ r) := fun nq w2 r N ho hb => by
      have hrow2 : w2.heap[w.heap.size]? = some (.cells #[.bool neg, .slice none 0 0] 126 (0, 0)) := keep_row (undrewN hb) HR1.out
      refine ⟨frozen_of_row w2 _ 1 _ _ hrow2, (row_at (i := 1) hrow2 rfl).1, intP_of (v := r) (Nat.le_refl _) (rowset (i := 1) r hrow2) ((ho.mono hsz).away hrow2 (by decide) 1 r), bset (HB2.out.trans ((undrewN hb).mono hsz)) (Nat.le_refl _)⟩
    have FIN := Lib.hid fin
    have tk : decide (L * 64 < k) = true := decide_eq_true (by omega)
    have tk' : decide ((L : Int) * 64 < (k : Int)) = true := decide_eq_true (by omega)
    have es : (k : Int) - (L : Int) * 64 = ((k - 64 * L : Nat) : Int) := by omega
    obtain ⟨s, hs⟩ : ∃ s, s = k - 64 * L := ⟨_, rfl⟩
    rw [← hs] at es
    have hs0 : 0 < s := by omega
    have hsb : s ≤ 1000000000 := by omega
    have HS := Lib.hid hs
    clear hs
    clear fin R1 R1c hB2 hB1 hR hF F1
    go_wp2_with fail
    (refine wp_region_hoist 12 (by kernel_rfl) (by kernel_rfl) ⟨fun _ _ _ h => (by first | exact (hQp _ _ _ h).elim | cases h.2.1 | (obtain ⟨_, h3, _⟩ := h.2; cases h3)), fun _ _ h => (by first | exact (hQo _ _ h).elim | cases h.1 | (obtain ⟨_, h3, _⟩ := h; cases h3))⟩ ?_; simp only [List.take_succ_cons, List.take_zero, List.drop_succ_cons, List.drop_zero]; (repeat (go_big_quiet_step (fail))); refine wpQuiet_nil ?_; rintro _ ⟨nq, rfl⟩)
    go_wp2_with fail
    refine (lsh_nil v (wv ws) s _ (HWS.out ▸ ((HV.out.below HB2.out).below (undrewN' (Below.refl _ _)))) HP0.out HNW.out hs0 hsb).mono ?_
    rintro _ w2 ⟨r, rfl, ho, hb⟩
    have hSr := ho.isS
    obtain ⟨g1, g2, g3, g4⟩ := FIN.out nq w2 r _ (ho.mono (Nat.le_refl _)) hb
    have G3 := Lib.hid g3
    have G4 := Lib.hid g4
    clear g3 g4 ho hb
    go_wp2
    go_ret2
    refine ⟨w.heap.size, by rw [← HAA.out]; rfl, ?_, G4.out⟩
    rw [← HS.out]; exact G3.out
set_option maxRecDepth 100000 in
theorem setWord0_nil (w : World) : Calls Tryd.prog 131 #[.slice none 0 0, .int .u64 0] w fun e w' => e = .returned (.slice none 0 0) ∧ w = w' := by
  go_enter Tryd.func131, Tryd.ntmps131
  go_wp2
  go_ret
  exact ⟨rfl, rfl⟩
set_option maxRecDepth 100000 in
theorem setUint0_nil (w : World) : Calls Tryd.prog 105 #[.slice none 0 0, .int .u64 0] w fun e w' => e = .returned (.slice none 0 0) ∧ w = w' := by
  go_enter Tryd.func105, Tryd.ntmps105
  go_wp2_with fail
  refine (setWord0_nil w).mono ?_
  rintro _ _ ⟨rfl, rfl⟩
  go_wp2
  go_ret
  exact ⟨rfl, rfl⟩
theorem intP_zero {w : World} {B g : Nat} {neg : Bool} (hB : B ≤ g) (h : w.heap[g]? = some (.cells #[.bool neg, .slice none 0 0] 126 (0, 0))) : IntP w B g neg 0 := ⟨_, hB, h, Own.nil _ _ _⟩
set_option maxRecDepth 100000 in
theorem intSet0 (g B : Nat) (w : World) (h : w.heap[g]? = some (.cells #[.bool false, .slice none 0 0] 126 (0, 0))) (hB : B ≤ g) :
    Calls Tryd.prog 80 #[.pointer (some ⟨g, 0, none⟩), .int .i64 0] w fun e w' => e = .returned (.pointer (some ⟨g, 0, none⟩)) ∧ IntP w' B g false 0 ∧ Below B w w' := by
  have r0 : w.cell? ⟨g, 0, none⟩ = some (.bool false) := (row_at (i := 0) h rfl).1
  have r1 : w.cell? ⟨g, 1, none⟩ = some (.slice none 0 0) := (row_at (i := 1) h rfl).1
  have z0 := frozen_of_row w g 0 _ _ h
  have z1 := frozen_of_row w g 1 _ _ h
  have R1 : (w.setCell ⟨g, 1, none⟩ (.slice none 0 0)).heap[g]? = some (.cells #[.bool false, .slice none 0 0] 126 (0, 0)) := rowset (i := 1) (.slice none 0 0) h
  have R2 : Hid (IntP ((w.setCell ⟨g, 1, none⟩ (.slice none 0 0)).setCell ⟨g, 0, none⟩ (.bool false)) B g false 0) := Lib.hid (intP_zero hB (rowset (i := 0) (.bool false) R1))
  have B2 := Lib.hid (bset (i := 0) (u := .bool false) (bset (i := 1) (u := .slice none 0 0) (Below.refl B w) hB) hB)
  clear h R1
  go_enter Tryd.func80, Tryd.ntmps80
  go_wp2_with fail
  refine (setUint0_nil _).mono ?_
  rintro _ _ ⟨rfl, rfl⟩
  go_wp2
  go_ret
  exact ⟨rfl, R2.out, B2.out⟩
set_option maxRecDepth 100000 in
set_option maxHeartbeats 1600000 in
theorem floatInt_zero (b p m : Nat) (a e : Int) (neg : Bool) (v : Value) (w : World) (h : FltR w b p m a 0 neg v e) :
    Calls Tryd.prog 57 #[.pointer (some ⟨b, 0, none⟩), .pointer none] w fun e' w' => ∃ g, e' = .returned (.tuple #[.pointer (some ⟨g, 0, none⟩), .int .i8 0]) ∧ IntP w' w.heap.size g false 0 ∧ Below w.heap.size w w' := by
  have hrow : (w.alloc (.cells #[.bool false, .slice none 0 0] 126)).heap[w.heap.size]? = some (.cells #[.bool false, .slice none 0 0] 126 (0, 0)) := box_row (Below.refl _ _)
  have hab := (Below.refl w.heap.size w).alloc (Nat.le_refl _) (.cells #[.bool false, .slice none 0 0] 126)
  obtain ⟨X, hX⟩ : ∃ X, X = w.alloc (.cells #[.bool false, .slice none 0 0] 126) := ⟨_, rfl⟩
  rw [← hX] at hrow hab
  obtain ⟨c0, c1, c2, c3', c4, c5, c6⟩ := h.cells
  have c3 : w.cell? ⟨b, 3, none⟩ = some (.int .u8 0) := c3'
  obtain ⟨d0, d1, d2, d3', d4, d5, d6⟩ := (h.below hab).cells
  have d3 : X.cell? ⟨b, 3, none⟩ = some (.int .u8 0) := d3'
  have HS := Lib.hid (fun k => intSet0 w.heap.size w.heap.size (X.drewN k) (hrow : (X.drewN k).heap[_]? = _) (Nat.le_refl _))
  have HAB := Lib.hid hab
  clear h hrow hab c3' d3'
  go_enter Tryd.func57, Tryd.ntmps57
  go_upto_region 3 with fail
  rw [← hX]
  clear hX c0 c1 c2 c3 c4 c5 c6
  go_wp2_with fail
  refine (HS.out 0).mono ?_
  rintro _ w2 ⟨rfl, hI, hb⟩
  have HI := Lib.hid hI
  have HB := Lib.hid (HAB.out.trans hb)
  clear hI hb
  go_wp2
  go_ret2
  exact ⟨_, rfl, HI.out, HB.out⟩
set_option maxRecDepth 100000 in
set_option maxHeartbeats 1600000 in
theorem floatInt_lo (b p m : Nat) (a e : Int) (neg : Bool) (v : Value) (w : World) (h : FltR w b p m a 1 neg v e) (he : e ≤ 0) :
    Calls Tryd.prog 57 #[.pointer (some ⟨b, 0, none⟩), .pointer none] w fun e' w' => ∃ g, e' = .returned (.tuple #[.pointer (some ⟨g, 0, none⟩), .int .i8 (accI neg false)]) ∧ IntP w' w.heap.size g false 0 ∧ Below w.heap.size w w' := by
  have hrow : (w.alloc (.cells #[.bool false, .slice none 0 0] 126)).heap[w.heap.size]? = some (.cells #[.bool false, .slice none 0 0] 126 (0, 0)) := box_row (Below.refl _ _)
  have hab := (Below.refl w.heap.size w).alloc (Nat.le_refl _) (.cells #[.bool false, .slice none 0 0] 126)
  obtain ⟨X, hX⟩ : ∃ X, X = w.alloc (.cells #[.bool false, .slice none 0 0] 126) := ⟨_, rfl⟩
  rw [← hX] at hrow hab
  obtain ⟨c0, c1, c2, c3', c4, c5, c6⟩ := h.cells
  have c3 : w.cell? ⟨b, 3, none⟩ = some (.int .u8 1) := c3'
  obtain ⟨d0, d1, d2, d3', d4, d5, d6⟩ := (h.below hab).cells
  have d3 : X.cell? ⟨b, 3, none⟩ = some (.int .u8 1) := d3'
  have HS := Lib.hid (fun k => intSet0 w.heap.size w.heap.size (X.drewN k) (hrow : (X.drewN k).heap[_]? = _) (Nat.le_refl _))
  have HAB := Lib.hid hab
  have t1 : decide (e ≤ 0) = true := decide_eq_true he
  clear he
  clear h hrow hab c3' d3'
  go_enter Tryd.func57, Tryd.ntmps57
  go_upto_region 3 with fail
  rw [← hX]
  clear hX c0 c1 c2 c3 c4 c5 c6
  go_wp2_with fail
  refine (makeAcc_any neg X).mono ?_
  rintro _ _ ⟨rfl, rfl⟩
  rw [show (if neg = true then (1 : Int) else -1) = accI neg false from rfl]
  obtain ⟨ac, hac⟩ : ∃ ac : Int, ac = accI neg false := ⟨_, rfl⟩
  have hacb : -1 ≤ ac ∧ ac ≤ 1 := by rw [hac]; unfold accI; cases neg <;> decide
  rw [← hac]
  have HAC := Lib.hid hac
  clear hac
  go_wp2_with fail
  refine (HS.out 0).mono ?_
  rintro _ w2 ⟨rfl, hI, hb⟩
  have HI := Lib.hid hI
  have HB := Lib.hid (HAB.out.trans hb)
  clear hI hb
  go_wp2
  go_ret2
  exact ⟨_, by first | rfl | (rw [HAC.out]; rfl), HI.out, HB.out⟩
set_option maxRecDepth 100000 in
theorem floatInt_inf (b p m : Nat) (a e : Int) (neg : Bool) (v : Value) (w : World) (h : FltR w b p m a 2 neg v e) :
    Calls Tryd.prog 57 #[.pointer (some ⟨b, 0, none⟩), .pointer none] w fun e' w' => e' = .returned (.tuple #[.pointer none, .int .i8 (accI neg false)]) ∧ w = w' := by
  obtain ⟨c0, c1, c2, c3', c4, c5, c6⟩ := h.cells
  have c3 : w.cell? ⟨b, 3, none⟩ = some (.int .u8 2) := c3'
  clear h c3'
  go_enter Tryd.func57, Tryd.ntmps57
  go_wp2_with fail
  refine (makeAcc_any neg w).mono ?_
  rintro _ _ ⟨rfl, rfl⟩
  rw [show (if neg = true then (1 : Int) else -1) = accI neg false from rfl]
  obtain ⟨ac, hac⟩ : ∃ ac : Int, ac = accI neg false := ⟨_, rfl⟩
  have hacb : -1 ≤ ac ∧ ac ≤ 1 := by rw [hac]; unfold accI; cases neg <;> decide
  rw [← hac]
  have HAC := Lib.hid hac
  clear hac
  go_wp2
  go_ret2
  exact ⟨by first | rfl | (rw [HAC.out]; rfl), rfl⟩
/-- The accuracy of Int. -/
def intA (f : Nat) (n : Bool) (M : Nat) (X : Int) : Int := if f = 1 then accI n (exT M X) else 0
/-- Int of a Float's value that is not infinite. -/
theorem floatInt_val (c Bx p m f : Nat) (a : Int) (neg : Bool) (M : Nat) (X : Int) (w : World) (hx : FVal w Bx c p m a f neg M X) (hf : f ≤ 1) (hX : f = 1 → -500000000 ≤ X ∧ X + bl M ≤ 500000000) (hT : TabW w) :
    Calls Tryd.prog 57 #[.pointer (some ⟨c, 0, none⟩), .pointer none] w fun e' w' => ∃ g sg, e' = .returned (.tuple #[.pointer (some ⟨g, 0, none⟩), .int .i8 (intA f neg M X)]) ∧ IntP w' w.heap.size g sg (trn (dyM f M) (dyE f X)) ∧ (0 < trn (dyM f M) (dyE f X) → sg = neg) ∧ Below w.heap.size w w' := by
  obtain ⟨v, e, h1, h2⟩ := hx
  rcases (by omega : f = 0 ∨ f = 1) with rfl | rfl
  · refine (floatInt_zero c p m a e neg v w h1).mono ?_
    rintro _ w' ⟨g, rfl, hI, hb⟩
    have h0 : trn (dyM 0 M) (dyE 0 X) = 0 := by unfold trn dyM; rw [if_neg (by decide), Nat.zero_mul]; exact Nat.zero_div _
    rw [h0]
    exact ⟨g, false, rfl, hI, fun hc => absurd hc (by decide), hb⟩
  · obtain ⟨hM, ws, ho, hg, hd⟩ := h2 rfl
    have h0 := hd.symm.pos hM
    have hb := hd.bl h0
    rw [hg.bl] at hb
    have hx := hX rfl
    have ht := trn_deq hd
    have hex := exT_deq h0 hd
    have hex2 := exT_tz (X := e - 64 * (ws.length : Int)) h0
    have hbo := bl_od h0
    have htz := tz_le h0
    have hbl := hg.bl
    rw [show dyM 1 M = M from rfl, show dyE 1 X = X from rfl, show intA 1 neg M X = accI neg (exT M X) from rfl, ← ht, ← hex]
    by_cases he : e ≤ 0
    · refine (floatInt_lo c p m a e neg v w h1 he).mono ?_
      rintro _ w' ⟨g, rfl, hI, hb⟩
      have h3 : trn (wv ws) (e - 64 * (ws.length : Int)) = 0 := by
        have := trn_lt (M := wv ws) (E := e - 64 * (ws.length : Int)) (k := 0) (by omega)
        omega
      rw [h3, hex2, decide_eq_false (by omega)]
      exact ⟨g, false, rfl, hI, fun hc => absurd hc (by decide), hb⟩
    · obtain ⟨k, rfl⟩ := Int.eq_ofNat_of_zero_le (show 0 ≤ e by omega)
      have hacc : decide (bl (od (wv ws)) ≤ k) = exT (wv ws) ((k : Int) - 64 * (ws.length : Int)) := by
        rw [hex2]
        by_cases hq : bl (od (wv ws)) ≤ k
        · rw [decide_eq_true hq, decide_eq_true (by omega)]
        · rw [decide_eq_false hq, decide_eq_false (by omega)]
      rw [← hacc]
      by_cases hk : k ≤ 64 * ws.length
      · refine (floatInt_le c p m k a neg v ws w h1 (ho.rw' hg.2.2.1) h0 hg.2.1 hg.bl hT (by omega) hk).mono ?_
        rintro _ w' ⟨g, rfl, hI, hb⟩
        have h3 : trn (wv ws) ((k : Int) - 64 * (ws.length : Int)) = wv ws / 2 ^ (64 * ws.length - k) := by
          unfold trn
          rw [show ((k : Int) - 64 * (ws.length : Int)).toNat = 0 by omega, Nat.pow_zero, Nat.mul_one, show (-((k : Int) - 64 * (ws.length : Int))).toNat = 64 * ws.length - k by omega]
        rw [h3]
        exact ⟨g, neg, rfl, hI, fun _ => rfl, hb⟩
      · refine (floatInt_gt c p m k a neg v ws w h1 (ho.rw' hg.2.2.1) h0 hg.2.1 hg.bl hT (by omega) (by omega)).mono ?_
        rintro _ w' ⟨g, rfl, hI, hb⟩
        have h3 : trn (wv ws) ((k : Int) - 64 * (ws.length : Int)) = wv ws * 2 ^ (k - 64 * ws.length) := by
          unfold trn
          rw [show ((k : Int) - 64 * (ws.length : Int)).toNat = k - 64 * ws.length by omega, show (-((k : Int) - 64 * (ws.length : Int))).toNat = 0 by omega, Nat.pow_zero, Nat.div_one]
        rw [h3]
        exact ⟨g, neg, rfl, hI, fun _ => rfl, hb⟩
end Go.Proofs.YtjapoobegjoblaaDoor

/-
The thin package's Int; the statement on it. No condition.
-/
namespace Go.Proofs.YtjapoobegjoblaaDoor
open Go.RowKit

theorem accI_bd (n b : Bool) : -1 ≤ accI n b ∧ accI n b ≤ 1 := by unfold accI; cases n <;> cases b <;> decide
theorem intA_bd (f : Nat) (n : Bool) (M : Nat) (X : Int) : -1 ≤ intA f n M X ∧ intA f n M X ≤ 1 := by
  unfold intA
  split
  · exact accI_bd _ _
  · exact ⟨by decide, by decide⟩
theorem intA_dy (f : Nat) (n : Bool) (M : Nat) (X : Int) : accI (dyN f n) (exT (dyM f M) (dyE f X)) = intA f n M X := by
  unfold intA
  by_cases h : f = 1
  · rw [if_pos h, show dyN f n = n from if_pos h, show dyM f M = M from if_pos h, show dyE f X = X from if_pos h]
  · rw [if_neg h, show dyM f M = 0 from if_neg h]
    unfold exT accI
    rw [Nat.zero_mod, decide_eq_true rfl, if_pos rfl]
set_option maxRecDepth 100000 in
set_option maxHeartbeats 1600000 in
theorem impInt_inf (P E p m f : Nat) (neg : Bool) (v : Value) (e : Int) (ws : List Nat) (w : World) (hv : RW w v ws) (ho : RealOk P E p m f ws e) (hf : f = 2) (hP : P ≤ 1000000) (hE : E ≤ 100000000) (hT : TabW w) :
    Calls Tryd.prog 28 #[.agg #[.int .u64 p, .int .i64 m, .int .i64 f, .bool neg, v, .int .i64 e]] w fun e' w' => ∃ A, e' = .returned (.tuple #[.agg #[.bool false, .slice none 0 0], .int .i64 A, .bool false]) ∧ (-1 ≤ A ∧ A ≤ 1) ∧ Below w.heap.size w w' := by
  have hS := hv.isS
  have hab := (Below.refl w.heap.size w).alloc (Nat.le_refl _) (.cells #[.int .u64 p, .int .i64 m, .int .i64 f, .bool neg, v, .int .i64 e] 25)
  have hac := hab.alloc hab.size (.cells #[.bool false, .slice none 0 0] 49)
  obtain ⟨X, hX⟩ : ∃ X, X = (w.alloc (.cells #[.int .u64 p, .int .i64 m, .int .i64 f, .bool neg, v, .int .i64 e] 25)).alloc (.cells #[.bool false, .slice none 0 0] 49) := ⟨_, rfl⟩
  have hr1 : X.heap[w.heap.size]? = some (.cells #[.int .u64 p, .int .i64 m, .int .i64 f, .bool neg, v, .int .i64 e] 25 (0, 0)) := by rw [hX]; exact row_chain21
  have hr2 : X.heap[w.heap.size + 1]? = some (.cells #[.bool false, .slice none 0 0] 49 (0, 0)) := by rw [hX]; exact row_chain22
  rw [← hX] at hac
  obtain ⟨-, x0, x1, x2, x3, x4, x5⟩ := ks12 hr1 (Below.refl _ _)
  have HV := Lib.hid (hv.below hac)
  have HO := Lib.hid ho
  have HT := Lib.hid (hT.below hac)
  have HB := Lib.hid hac
  have HR2 := Lib.hid hr2
  have hXs := hac.size
  have hle : w.heap.size ≤ w.heap.size + 1 := Nat.le_succ _
  have hAb := accI_bd neg false
  obtain ⟨A, hA⟩ : ∃ A, A = accI neg false := ⟨_, rfl⟩
  have HI := Lib.hid (fun (W : World) (g : Nat) (v : Value) (e : Int) (h : FltR W g p m 0 f neg v e) => floatInt_inf g p m 0 e neg v W (by rw [hf] at h; exact h))
  rw [← hA] at HI hAb
  clear hA hf
  clear hv ho hT hab hac hr1 hr2
  go_enter Tryd.func28, Tryd.ntmps28
  go_upto_region 1 with fail
  rw [← hX]
  clear hX
  go_wp2_with fail
  refine (float_val P E p m f neg v e ws X HV.out HO.out (by omega) (by omega)).mono ?_
  rintro _ w1 ⟨g, rfl, ⟨-, hF⟩, hb1⟩
  have HF := Lib.hid hF
  have HB1 := Lib.hid (HB.out.trans (hb1.mono hXs))
  have HT1 := Lib.hid (HT.out.below hb1)
  have HRR := Lib.hid (keep_row hb1 HR2.out)
  have hws1 := HB1.out.size
  clear hF hb1 x0 x1 x2 x3 x4 x5
  obtain ⟨v', e', hF', -⟩ := HF.out
  have HF' := Lib.hid hF'
  clear hF'
  go_wp2_with fail
  refine (HI.out w1 g v' e' HF'.out).mono ?_
  rintro _ _ ⟨rfl, rfl⟩
  have hrow := HRR.out
  obtain ⟨k00, k01⟩ := row_at (i := 0) hrow rfl
  obtain ⟨k10, k11⟩ := row_at (i := 1) hrow rfl
  have q2 := rowset (i := 1) (.slice none 0 0) (rowset (i := 0) (.bool false) hrow)
  obtain ⟨e0, -⟩ := row_at (i := 0) q2 rfl
  obtain ⟨e1, -⟩ := row_at (i := 1) q2 rfl
  have B1 := Lib.hid (bset (i := 1) (u := .slice none 0 0) (bset (i := 0) (u := .bool false) HB1.out hle) hle)
  clear hrow q2
  go_wp2
  refine bodyPost_ret (v := .tuple #[.agg #[.bool false, .slice none 0 0], .int .i64 A, .bool false]) ?_ rfl ⟨A, rfl, hAb, B1.out⟩
  simp [results, Tryd.results28, go_sem, e0, e1]
set_option maxRecDepth 100000 in
set_option maxHeartbeats 1600000 in
theorem impInt (P E p m f : Nat) (neg : Bool) (v : Value) (e : Int) (ws : List Nat) (w : World) (hv : RW w v ws) (ho : RealOk P E p m f ws e) (hf : f ≤ 1) (hP : P ≤ 1000000) (hE : E ≤ 100000000) (hT : TabW w) :
    Calls Tryd.prog 28 #[.agg #[.int .u64 p, .int .i64 m, .int .i64 f, .bool neg, v, .int .i64 e]] w fun e' w' => ∃ r, e' = .returned (.tuple #[.agg #[.bool (dyN f neg && decide (0 < trn (dyM f (wv ws)) (dyE f e))), r], .int .i64 (intA f neg (wv ws) e), .bool true]) ∧ RW w' r (wds (trn (dyM f (wv ws)) (dyE f e))) ∧ Below w.heap.size w w' := by
  have hS := hv.isS
  have hab := (Below.refl w.heap.size w).alloc (Nat.le_refl _) (.cells #[.int .u64 p, .int .i64 m, .int .i64 f, .bool neg, v, .int .i64 e] 25)
  have hac := hab.alloc hab.size (.cells #[.bool false, .slice none 0 0] 49)
  obtain ⟨X, hX⟩ : ∃ X, X = (w.alloc (.cells #[.int .u64 p, .int .i64 m, .int .i64 f, .bool neg, v, .int .i64 e] 25)).alloc (.cells #[.bool false, .slice none 0 0] 49) := ⟨_, rfl⟩
  have hr1 : X.heap[w.heap.size]? = some (.cells #[.int .u64 p, .int .i64 m, .int .i64 f, .bool neg, v, .int .i64 e] 25 (0, 0)) := by rw [hX]; exact row_chain21
  have hr2 : X.heap[w.heap.size + 1]? = some (.cells #[.bool false, .slice none 0 0] 49 (0, 0)) := by rw [hX]; exact row_chain22
  rw [← hX] at hac
  obtain ⟨-, x0, x1, x2, x3, x4, x5⟩ := ks12 hr1 (Below.refl _ _)
  have HV := Lib.hid (hv.below hac)
  have HO := Lib.hid ho
  have HT := Lib.hid (hT.below hac)
  have HB := Lib.hid hac
  have HR2 := Lib.hid hr2
  have hXs := hac.size
  have hle : w.heap.size ≤ w.heap.size + 1 := Nat.le_succ _
  have hAb := intA_bd f neg (wv ws) e
  obtain ⟨A, hA⟩ : ∃ A, A = intA f neg (wv ws) e := ⟨_, rfl⟩
  have hTb : nw (trn (dyM f (wv ws)) (dyE f e)) ≤ 100000000 := by
    have h1 := dy_bd ho
    obtain ⟨k, hk⟩ : ∃ k, k = 200000000 := ⟨_, rfl⟩
    have h2 := trn_lt (M := dyM f (wv ws)) (E := dyE f e) (k := k) (by omega)
    have h3 := bl_le h2
    clear h2
    rcases Nat.eq_zero_or_pos (trn (dyM f (wv ws)) (dyE f e)) with h0 | h0
    · rw [h0]; exact Nat.zero_le _
    · rw [nw_bl h0]; omega
  have hsgn : ∀ sg, (0 < trn (dyM f (wv ws)) (dyE f e) → sg = neg) → (sg && decide (0 < trn (dyM f (wv ws)) (dyE f e))) = (dyN f neg && decide (0 < trn (dyM f (wv ws)) (dyE f e))) := fun sg h => by
    by_cases h0 : 0 < trn (dyM f (wv ws)) (dyE f e)
    · have h1 : f = 1 := by
        refine Classical.byContradiction fun hc => ?_
        rw [show dyM f (wv ws) = 0 from if_neg hc] at h0
        unfold trn at h0; rw [Nat.zero_mul, Nat.zero_div] at h0; omega
      rw [h h0, show dyN f neg = neg from if_pos h1]
    · rw [decide_eq_false h0, Bool.and_false, Bool.and_false]
  have HI := Lib.hid (fun (W : World) (B g : Nat) (h : FVal W B g p m 0 f neg (wv ws) e) (hT : TabW W) => floatInt_val g B p m f 0 neg (wv ws) e W h hf (fun h1 => by have := ho.one h1; omega) hT)
  obtain ⟨T, hTT⟩ : ∃ T, T = trn (dyM f (wv ws)) (dyE f e) := ⟨_, rfl⟩
  rw [← hTT] at hTb hsgn HI
  rw [← hTT]
  rw [← hA] at HI hAb
  rw [← hA]
  obtain ⟨sx, hsx⟩ : ∃ sx, sx = (dyN f neg && decide (0 < T)) := ⟨_, rfl⟩
  rw [← hsx] at hsgn
  rw [← hsx]
  have HSG := Lib.hid hsgn
  clear hA hTT hsgn hsx
  clear hv ho hT hab hac hr1 hr2
  go_enter Tryd.func28, Tryd.ntmps28
  go_upto_region 1 with fail
  rw [← hX]
  clear hX
  go_wp2_with fail
  refine (float_val P E p m f neg v e ws X HV.out HO.out (by omega) (by omega)).mono ?_
  rintro _ w1 ⟨g, rfl, ⟨-, hF⟩, hb1⟩
  have HF := Lib.hid hF
  have HB1 := Lib.hid (HB.out.trans (hb1.mono hXs))
  have HT1 := Lib.hid (HT.out.below hb1)
  have HRR := Lib.hid (keep_row hb1 HR2.out)
  have hws1 := HB1.out.size
  clear hF hb1 x0 x1 x2 x3 x4 x5
  go_wp2_with fail
  refine (HI.out w1 _ g HF.out HT1.out).mono ?_
  rintro _ w2 ⟨d, sg, rfl, hI, hsg, hb2⟩
  have HS1 := Lib.hid (HSG.out sg hsg)
  obtain ⟨vd, -, hrd, hod⟩ := hI
  have h0 := (row_at (i := 0) hrd rfl).1
  have h1 := (row_at (i := 1) hrd rfl).1
  have HVD := Lib.hid (hod.rw' (wds_all T))
  have HB2 := Lib.hid (HB1.out.trans (hb2.mono hws1))
  have HRR2 := Lib.hid (keep_row hb2 HRR.out)
  have hws2 := HB2.out.size
  have HTO := Lib.hid (told_any d 0 sg vd T w2 h0 h1 HVD.out hTb)
  rw [HS1.out] at HTO
  clear hb2 hsg hrd hod h0 h1
  go_wp2_with fail
  refine HTO.out.mono ?_
  rintro _ w3 ⟨r, rfl, hr, hb3⟩
  have hSr := hr.isS
  have hrow := keep_row hb3 HRR2.out
  obtain ⟨k00, k01⟩ := row_at (i := 0) hrow rfl
  obtain ⟨k10, k11⟩ := row_at (i := 1) hrow rfl
  have q2 := rowset (i := 1) r (rowset (i := 0) (.bool sx) hrow)
  obtain ⟨e0, -⟩ := row_at (i := 0) q2 rfl
  obtain ⟨e1, -⟩ := row_at (i := 1) q2 rfl
  have O1 := Lib.hid (((hr.away hrow (by decide) 0 (.bool sx)).away (rowset (i := 0) (.bool sx) hrow) (by decide) 1 r).rw' (wds_all T))
  have B1 := Lib.hid (bset (i := 1) (u := r) (bset (i := 0) (u := .bool sx) (HB2.out.trans (hb3.mono hws2)) hle) hle)
  clear hrow q2 hr hb3
  go_wp2
  refine bodyPost_ret (v := .tuple #[.agg #[.bool sx, r], .int .i64 A, .bool true]) ?_ rfl ⟨r, rfl, O1.out, B1.out⟩
  simp [results, Tryd.results28, go_sem, e0, e1]
set_option maxRecDepth 100000 in
set_option maxHeartbeats 3200000 in
theorem lawInt (p1 : Nat) (m1 f1 : Int) (n1 : Bool) (v1 : Value) (e1 : Int) (xs1 : List Nat) (w : World) (hT : TabW w) (hv1 : RW w v1 xs1) (_hg1 : p1 ≤ 18446744073709551615 ∧ (-9223372036854775808 ≤ m1 ∧ m1 ≤ 9223372036854775807) ∧ (-9223372036854775808 ≤ f1 ∧ f1 ≤ 9223372036854775807) ∧ (-9223372036854775808 ≤ e1 ∧ e1 ≤ 9223372036854775807)) :
    Calls Tryd.prog 5 #[.agg #[.int .u64 p1, .int .i64 m1, .int .i64 f1, .bool n1, v1, .int .i64 e1]] w fun e' w' => e' = .returned (.bool true) ∧ Below w.heap.size w w' := by
  have hS1 := hv1.isS
  clear _hg1
  have hab1 := (Below.refl w.heap.size w).alloc (Nat.le_refl _) (.cells #[.int .u64 p1, .int .i64 m1, .int .i64 f1, .bool n1, v1, .int .i64 e1] 25)
  obtain ⟨X, hX⟩ : ∃ X, X = (w.alloc (.cells #[.int .u64 p1, .int .i64 m1, .int .i64 f1, .bool n1, v1, .int .i64 e1] 25)) := ⟨_, rfl⟩
  have hr1 : X.heap[w.heap.size]? = some (.cells #[.int .u64 p1, .int .i64 m1, .int .i64 f1, .bool n1, v1, .int .i64 e1] 25 (0, 0)) := by
    rw [hX]; exact row_chain11
  rw [← hX] at hab1
  obtain ⟨-, ⟨c10, c11, c12, c13, c14, c15⟩⟩ := ksR1 hr1 (Below.refl _ _)
  have HR1 := Lib.hid hr1
  have V1 := Lib.hid (hv1.below hab1)
  have hXs := hab1.size
  have HW := Lib.hid hab1
  have T0 := Lib.hid (hT.below hab1)
  clear hT
  clear hr1 hv1
  clear hab1
  go_enter Tryd.func5, Tryd.ntmps5
  go_upto_region 1 with fail
  rw [← hX]
  clear hX
  go_wp2_with fail
  refine (zzFits1_any p1 m1 f1 e1 n1 v1 xs1 X V1.out).mono ?_
  rintro _ w1 ⟨rfl, hb1⟩
  obtain ⟨fits, hfits⟩ : ∃ f, f = decide (xs1.length ≤ 2147483647) := ⟨_, rfl⟩
  rw [← hfits]
  clear c10 c11 c12 c13 c14 c15 hfits
  obtain ⟨-, ⟨c10, c11, c12, c13, c14, c15⟩⟩ := ksR1 HR1.out hb1
  have HB := Lib.hid hb1
  clear hb1
  cases fits with
  | false =>
    go_wp2
    go_ret
    exact ⟨rfl, HW.out.trans (HB.out.mono hXs)⟩
  | true =>
  go_wp2_with fail
  refine (real_any 300 1000 p1 m1 f1 e1 n1 v1 xs1 w1 (V1.out.below HB.out) (by decide) (by decide)).mono ?_
  rintro _ w2 ⟨ok, rfl, hok, hb1⟩
  have hb1 := bthen HB.out hb1
  have HO1 := Lib.hid hok
  clear c10 c11 c12 c13 c14 c15 HB hok
  obtain ⟨-, ⟨c10, c11, c12, c13, c14, c15⟩⟩ := ksR1 HR1.out hb1
  have HB := Lib.hid hb1
  clear hb1
  cases ok with
  | false =>
    go_wp2
    go_ret
    exact ⟨rfl, HW.out.trans (HB.out.mono hXs)⟩
  | true =>
  obtain ⟨P1, M1, F1, hp, rfl, rfl, hR⟩ := HO1.out rfl
  have hpp : P1 = p1 := by omega
  subst hpp
  have R1 := Lib.hid hR
  clear HO1 hp hR
  have hw2 := HW.out.trans (HB.out.mono hXs)
  have hV1 := V1.out.below HB.out
  have hr1 := keep_row HB.out HR1.out
  have hT0 := T0.out.below HB.out
  clear T0
  have T0 := Lib.hid hT0
  clear hT0
  clear HW HB hXs V1 HR1
  have HW := Lib.hid hw2
  have V1 := Lib.hid hV1
  have HR1 := Lib.hid hr1
  have hWs := HW.out.size
  clear hw2 hV1 hr1
  by_cases hf2 : F1 = 2
  · have t0 : ((F1 : Int) == 2) = true := by rw [hf2]; rfl
    have HF2 := Lib.hid hf2
    clear hf2
    go_wp2_with fail
    refine (impInt_inf 300 1000 P1 M1 F1 n1 v1 e1 xs1 w2 V1.out R1.out HF2.out (by decide) (by decide) T0.out).mono ?_
    rintro _ w7 ⟨A, rfl, hAb, hb7⟩
    obtain ⟨Y, hY⟩ : ∃ Y, Y = w7.alloc (.cells #[.bool false, .slice none 0 0] 49) := ⟨_, rfl⟩
    have hbY : Below w7.heap.size w7 Y := by rw [hY]; exact fbone _
    have hb8 := bthen hb7 hbY
    have HWY := Lib.hid (HW.out.trans (hb8.mono hWs))
    clear c10 c11 c12 c13 c14 c15
    obtain ⟨-, c10, c11, c12, c13, c14, c15⟩ := ks12 HR1.out hb8
    clear hb7 hbY hb8
    go_upto_region 6 with fail
    rw [← hY]
    clear hY
    go_wp2
    go_ret
    exact ⟨rfl, HWY.out⟩
  have t0 : ((F1 : Int) == 2) = false := by rw [beq_eq_false_iff_ne]; omega
  have hf1 : F1 ≤ 1 := by have := R1.out.form'; omega
  have HBD := Lib.hid (dy_bd R1.out)
  have HII := Lib.hid (impInt 300 1000 P1 M1 F1 n1 v1 e1 xs1 w2 V1.out R1.out hf1 (by decide) (by decide) T0.out)
  have HCT := Lib.hid (fun (W : World) (a : Value) (h : NatV W a (dyM F1 (wv xs1))) => cut2 (dyN F1 n1) a (dyM F1 (wv xs1)) (dyE F1 e1) W h (nl_of_bl (by have := HBD.out; omega)) (by have := HBD.out; omega))
  rw [intA_dy] at HCT
  have hTb : nl (trn (dyM F1 (wv xs1)) (dyE F1 e1)) ≤ 1000000000 := by
    have h1 := HBD.out
    have h2 := trn_lt (M := dyM F1 (wv xs1)) (E := dyE F1 e1) (k := 2000) (by omega)
    exact nl_of_bl (Nat.le_trans (bl_le h2) (by decide))
  have hAb := intA_bd F1 n1 (wv xs1) e1
  have hTw : nw (trn (dyM F1 (wv xs1)) (dyE F1 e1)) ≤ 1000000 := by
    have h1 := HBD.out
    obtain ⟨k, hk⟩ : ∃ k, k = 2048 := ⟨_, rfl⟩
    have h2 := bl_le (trn_lt (M := dyM F1 (wv xs1)) (E := dyE F1 e1) (k := k) (by omega))
    rcases Nat.eq_zero_or_pos (trn (dyM F1 (wv xs1)) (dyE F1 e1)) with h0 | h0
    · rw [h0]; exact Nat.zero_le _
    · rw [nw_bl h0]; omega
  obtain ⟨T, hTT⟩ : ∃ T, T = trn (dyM F1 (wv xs1)) (dyE F1 e1) := ⟨_, rfl⟩
  rw [← hTT] at HII HCT hTb hTw
  obtain ⟨A, hA⟩ : ∃ A, A = intA F1 n1 (wv xs1) e1 := ⟨_, rfl⟩
  rw [← hA] at HII HCT hAb
  obtain ⟨sx, hsx⟩ : ∃ sx, sx = (dyN F1 n1 && decide (0 < T)) := ⟨_, rfl⟩
  rw [← hsx] at HII
  have HIN : Hid (isNum sx (wds T) (dyN F1 n1) T = true) := Lib.hid (by unfold isNum; rw [← hsx, decide_eq_true rfl]; simp)
  have hEb : -1000 ≤ dyE F1 e1 ∧ dyE F1 e1 ≤ 1000 := by have := HBD.out; omega
  clear hTT hA hsx hf2 hf1
  go_wp2_with fail
  refine HII.out.mono ?_
  rintro _ w7 ⟨r, rfl, hr, hb7⟩
  have hSr := hr.isS
  obtain ⟨Y, hY⟩ : ∃ Y, Y = w7.alloc (.cells #[.bool sx, r] 49) := ⟨_, rfl⟩
  have hbY : Below w7.heap.size w7 Y := by rw [hY]; exact fbone _
  have hrY : Y.heap[w7.heap.size]? = some (.cells #[.bool sx, r] 49 (0, 0)) := by rw [hY]; exact row_chain11
  have hb8 := bthen hb7 hbY
  have HRN := Lib.hid (hr.below hbY)
  have HRY := Lib.hid hrY
  have HWY := Lib.hid (HW.out.trans (hb8.mono hWs))
  have hYs := HWY.out.size
  have V8 := Lib.hid (V1.out.below hb8)
  clear c10 c11 c12 c13 c14 c15
  obtain ⟨-, c10, c11, c12, c13, c14, c15⟩ := ks12 HR1.out hb8
  clear hr hb7 hbY hrY hb8
  go_upto_region 6 with fail
  rw [← hY]
  clear hY
  go_wp2_with fail
  refine (ofReal_any 300 1000 P1 M1 F1 e1 n1 v1 xs1 Y V8.out R1.out).mono ?_
  rintro _ w8 ⟨_, rfl, ⟨b, rfl, hd1⟩, hb8⟩
  have hT1 := hd1.isS
  obtain ⟨Z, hZ⟩ : ∃ Z, Z = w8.alloc (.cells #[.bool (dyN F1 n1), b, .int .i64 (dyE F1 e1)] 33) := ⟨_, rfl⟩
  have hbZ : Below w8.heap.size w8 Z := by rw [hZ]; exact fbone _
  have hrZ : Z.heap[w8.heap.size]? = some (.cells #[.bool (dyN F1 n1), b, .int .i64 (dyE F1 e1)] 33 (0, 0)) := by rw [hZ]; exact row_chain11
  have hb9 := bthen hb8 hbZ
  have HD := Lib.hid (hd1.below hbZ)
  have HRD := Lib.hid hrZ
  have HRN2 := Lib.hid (HRN.out.below hb9)
  have HRY2 := Lib.hid (keep_row hb9 HRY.out)
  have HWZ := Lib.hid (HWY.out.trans (hb9.mono hYs))
  have hZs := HWZ.out.size
  obtain ⟨d0, d1, d2, -, -, -⟩ := row3 hrZ
  clear hd1 hb8 hbZ hrZ hb9 c10 c11 c12 c13 c14 c15
  go_upto_region 9 with fail
  rw [← hZ]
  clear hZ
  go_wp2_with fail
  refine (HCT.out Z b HD.out).mono ?_
  rintro _ wA ⟨q, rfl, hq, hbA⟩
  have hSq := hq.isS
  have HQ := Lib.hid hq
  have HRN3 := Lib.hid (HRN2.out.below hbA)
  have HWA := Lib.hid (HWZ.out.trans (hbA.mono hZs))
  have hAs := HWA.out.size
  have hrD := keep_row hbA HRD.out
  have hrN := keep_row hbA HRY2.out
  clear d0 d1 d2 hq hbA
  obtain ⟨d0, d1, d2, -, -, -⟩ := row3 hrD
  have y0 := (row_at (i := 0) hrN rfl).1
  have y1 := (row_at (i := 1) hrN rfl).1
  have HNA := Lib.hid (isNumber_any sx (dyN F1 n1) r q (wds T) T wA HRN3.out HQ.out (by rw [wds_length]; omega) hTb)
  rw [HIN.out] at HNA
  clear hrD hrN
  go_wp2_with fail
  refine HNA.out.mono ?_
  rintro _ wB ⟨rfl, hbB⟩
  have HWB := Lib.hid (HWA.out.trans (hbB.mono hAs))
  clear hbB
  go_wp2
  go_ret
  exact ⟨rfl, HWB.out⟩
end Go.Proofs.YtjapoobegjoblaaDoor
