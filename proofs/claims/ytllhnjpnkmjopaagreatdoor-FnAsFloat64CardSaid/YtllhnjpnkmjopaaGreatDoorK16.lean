/-
Texts of this proof, joined: FlN. No condition.
-/
import Derived.Test.YtllhnjpnkmjopaaGreatDoorK15
namespace Go.Proofs.YtllhnjpnkmjopaaGreatDoor
open Go.RowKit

theorem sizeF : (Tryz.prog.info? 129).map (·.size) = some 7 := by kernel_rfl
theorem neqF (w : World) {b c : Nat} {cb cc : Array Value} {tb tc : TypeId} (hne : b ≠ c) (hb : w.heap[b]? = some (.cells cb tb (0, 0))) (hc : w.heap[c]? = some (.cells cc tc (0, 0))) :
    (binOp .neq 84 (.pointer (some ⟨b, 0, none⟩)) (.pointer (some ⟨c, 0, none⟩))).run Tryz.prog w = .ok (.bool true) w := by
  obtain ⟨j, hj, hz⟩ := info_size sizeF
  exact run_neq_ptr_other w Tryz.underlying84 hj (by omega) (by simp) hb hc
theorem neqF_same (w : World) (a : Addr) : (binOp .neq 84 (.pointer (some a)) (.pointer (some a))).run Tryz.prog w = .ok (.bool false) w := by
  obtain ⟨j, hj, hz⟩ := info_size sizeF
  exact Lib.run_neq_ptr_same w a Tryz.underlying84 hj
set_option maxRecDepth 100000 in
theorem setPrec_new (b B p m : Nat) (a e : Int) (neg : Bool) (v : Value) (w : World) (h : FltR w b 0 m a 0 neg v e) (hB : B ≤ b) (hp0 : 0 < p) (hp : p ≤ 64000000) :
    Calls Tryz.prog 90 #[.pointer (some ⟨b, 0, none⟩), .int .u64 p] w fun e' w' => e' = .returned (.pointer (some ⟨b, 0, none⟩)) ∧ FltR w' b p m 0 0 neg v e ∧ Below B w w' := by
  obtain ⟨c0, c1, c2, c3, c4, c5, c6⟩ := h.cells
  obtain ⟨f0, f1, f2, f3, f4, f5, f6⟩ := h.free
  have c0' : w.cell? ⟨b, 0, none⟩ = some (.int .u32 0) := c0
  have t1 : ((p : Int) == 0) = false := by rw [beq_eq_false_iff_ne]; omega
  have F := Lib.hid ((h.s2 0).s0 p)
  have FB := Lib.hid (bset (i := 0) (u := .int .u32 (p : Int)) (bset (i := 2) (u := .int .i8 0) (Below.refl B w) hB) hB)
  clear c0 h
  go_enter Tryz.func90, Tryz.ntmps90
  go_wp2
  go_ret
  exact ⟨rfl, F.out, FB.out⟩
set_option maxRecDepth 100000 in
theorem setMode_any (b B p m m' f : Nat) (a e : Int) (neg : Bool) (v : Value) (w : World) (h : FltR w b p m a f neg v e) (hB : B ≤ b) :
    Calls Tryz.prog 91 #[.pointer (some ⟨b, 0, none⟩), .int .u8 m'] w fun e' w' => e' = .returned (.pointer (some ⟨b, 0, none⟩)) ∧ FltR w' b p m' 0 f neg v e ∧ Below B w w' := by
  obtain ⟨c0, c1, c2, c3, c4, c5, c6⟩ := h.cells
  obtain ⟨f0, f1, f2, f3, f4, f5, f6⟩ := h.free
  have F := Lib.hid ((h.s1 m').s2 0)
  have FB := Lib.hid (bset (i := 2) (u := .int .i8 0) (bset (i := 1) (u := .int .u8 (m' : Int)) (Below.refl B w) hB) hB)
  clear h
  go_enter Tryz.func91, Tryz.ntmps91
  go_wp2
  go_ret
  exact ⟨rfl, F.out, FB.out⟩
set_option maxRecDepth 100000 in
theorem fresh_any (p m : Nat) (w : World) (hp0 : 0 < p) (hp : p ≤ 64000000) (hm : m ≤ 255) :
    Calls Tryz.prog 48 #[.int .u64 p, .int .i64 m] w fun e' w' => e' = .returned (.pointer (some ⟨w.heap.size, 0, none⟩)) ∧ FltR w' w.heap.size p m 0 0 false (.slice none 0 0) 0 ∧ Below w.heap.size w w' := by
  go_enter Tryz.func48, Tryz.ntmps48
  go_wp2_with fail
  refine (setPrec_new w.heap.size w.heap.size p 0 0 0 false (.slice none 0 0) _ (newF_row w) (Nat.le_refl _) hp0 hp).mono ?_
  rintro _ w1 ⟨rfl, h1, hb1⟩
  have hb1' := (fbone (W := w) newF).trans hb1
  have H1 := Lib.hid h1
  have HB1 := Lib.hid hb1'
  clear h1 hb1 hb1'
  go_wp2_with fail
  refine (setMode_any w.heap.size w.heap.size p 0 m 0 0 0 false _ w1 H1.out (Nat.le_refl _)).mono ?_
  rintro _ w2 ⟨rfl, h2, hb2⟩
  have H2 := Lib.hid h2
  have HB2 := Lib.hid (HB1.out.trans hb2)
  clear h2 hb2
  go_wp2
  go_ret
  exact ⟨rfl, H2.out, HB2.out⟩
set_option maxRecDepth 100000 in
theorem setInf_any (b B p m f : Nat) (a e : Int) (neg neg' : Bool) (v : Value) (w : World) (h : FltR w b p m a f neg v e) (hB : B ≤ b) :
    Calls Tryz.prog 94 #[.pointer (some ⟨b, 0, none⟩), .bool neg'] w fun e' w' => e' = .returned (.pointer (some ⟨b, 0, none⟩)) ∧ FltR w' b p m 0 2 neg' v e ∧ Below B w w' := by
  obtain ⟨c0, c1, c2, c3, c4, c5, c6⟩ := h.cells
  obtain ⟨f0, f1, f2, f3, f4, f5, f6⟩ := h.free
  have F := Lib.hid (((h.s2 0).s3 2).s4 neg')
  have FB := Lib.hid (bset (i := 4) (u := .bool neg') (bset (i := 3) (u := .int .u8 (2 : Int)) (bset (i := 2) (u := .int .i8 0) (Below.refl B w) hB) hB) hB)
  clear h
  go_enter Tryz.func94, Tryz.ntmps94
  go_wp2
  go_ret
  exact ⟨rfl, F.out, FB.out⟩
set_option maxRecDepth 100000 in
theorem setF_same (b p m f : Nat) (a e : Int) (neg : Bool) (v : Value) (w : World) (h : FltR w b p m a f neg v e) :
    Calls Tryz.prog 110 #[.pointer (some ⟨b, 0, none⟩), .pointer (some ⟨b, 0, none⟩)] w fun e' w' => e' = .returned (.pointer (some ⟨b, 0, none⟩)) ∧ w' = w.setCell ⟨b, 2, none⟩ (.int .i8 0) := by
  obtain ⟨c0, c1, c2, c3, c4, c5, c6⟩ := h.cells
  obtain ⟨f0, f1, f2, f3, f4, f5, f6⟩ := h.free
  have hcmp := neqF_same (w.setCell ⟨b, 2, none⟩ (.int .i8 0)) ⟨b, 0, none⟩
  clear h
  go_enter Tryz.func110, Tryz.ntmps110
  go_wp2
  go_ret
  exact ⟨rfl, rfl⟩
set_option maxRecDepth 100000 in
theorem negF_same (b B p m f : Nat) (a e : Int) (neg : Bool) (v : Value) (w : World) (h : FltR w b p m a f neg v e) (hB : B ≤ b) :
    Calls Tryz.prog 93 #[.pointer (some ⟨b, 0, none⟩), .pointer (some ⟨b, 0, none⟩)] w fun e' w' => e' = .returned (.pointer (some ⟨b, 0, none⟩)) ∧ FltR w' b p m 0 f (!neg) v e ∧ Below B w w' ∧ Only b w w' := by
  have R2 := h.s2 0
  obtain ⟨c0, c1, c2, c3, c4, c5, c6⟩ := R2.cells
  obtain ⟨f0, f1, f2, f3, f4, f5, f6⟩ := R2.free
  have F := Lib.hid (R2.s4 (!neg))
  have FB := Lib.hid (bset (i := 4) (u := .bool (!neg)) (bset (i := 2) (u := .int .i8 0) (Below.refl B w) hB) hB)
  have FO : Hid (Only b w ((w.setCell ⟨b, 2, none⟩ (.int .i8 0)).setCell ⟨b, 4, none⟩ (.bool (!neg)))) := Lib.hid (fun k hk hne => by
    rw [heap_setCell_other _ _ _ _ (by simpa using hne), heap_setCell_other _ _ _ _ (by simpa using hne)])
  have H := Lib.hid h
  clear h R2
  go_enter Tryz.func93, Tryz.ntmps93
  go_wp2_with fail
  refine (setF_same b p m f a e neg v w H.out).mono ?_
  rintro _ w1 ⟨rfl, hw1⟩
  rw [← hw1] at c0 c1 c2 c3 c4 c5 c6 f0 f1 f2 f3 f4 f5 f6 F FB FO
  clear hw1
  go_wp2
  go_ret
  exact ⟨rfl, F.out, FB.out, FO.out⟩
set_option maxRecDepth 100000 in
set_option maxHeartbeats 1600000 in
theorem copyF (b B c p0 m0 f0' p m : Nat) (a0 e0 a e : Int) (n0 neg : Bool) (v : Value) (ws : List Nat) (w : World) (h : FltR w b p0 m0 a0 f0' n0 (.slice none 0 0) e0) (hB : B ≤ b) (hx : FltR w c p m a 1 neg v e) (hbc : b ≠ c) {Bx : Nat} (ho : Own w Bx 116 v (cellsW ws)) (hd : ∀ d ∈ ws, d < 18446744073709551616) (hl : ws.length ≤ 1000000) :
    Calls Tryz.prog 129 #[.pointer (some ⟨b, 0, none⟩), .pointer (some ⟨c, 0, none⟩)] w fun e' w' => e' = .returned (.pointer (some ⟨b, 0, none⟩)) ∧ ∃ r, FltR w' b p m a 1 neg r e ∧ Own w' B 116 r (cellsW ws) ∧ Below B w w' := by
  obtain ⟨c0, c1, c2, c3, c4, c5, c6⟩ := h.cells
  obtain ⟨f0, f1, f2, f3, f4, f5, f6⟩ := h.free
  obtain ⟨d0, d1, d2, d3, d4, d5, d6⟩ := hx.cells
  have d3' : w.cell? ⟨c, 3, none⟩ = some (.int .u8 1) := d3
  have hcmp := neqF w hbc h hx
  have hbc1 : ¬ b = c := hbc
  have hbc2 : ¬ c = b := fun h => hbc h.symm
  have hblt := h.lt
  have hS := ho.isS
  have r1 := h.s0 p
  have r2 := r1.s1 m
  have r3 := r2.s2 a
  have r4 := r3.s3 1
  have R5 := Lib.hid (r4.s4 neg)
  have V5 := Lib.hid ((r4.own (r3.own (r2.own (r1.own (h.own ho 0 (.int .u32 (p : Int))) 1 (.int .u8 (m : Int))) 2 (.int .i8 a)) 3 (.int .u8 (1 : Int))) 4 (.bool neg)).rw' hd)
  have B5 := Lib.hid (bset (i := 4) (u := .bool neg) (bset (i := 3) (u := .int .u8 (1 : Int)) (bset (i := 2) (u := .int .i8 a) (bset (i := 1) (u := .int .u8 (m : Int)) (bset (i := 0) (u := .int .u32 (p : Int)) (Below.refl B w) hB) hB) hB) hB) hB)
  have hne : ∀ (W : World) (i : Nat) (u : Value), (W.setCell ⟨b, i, none⟩ u).heap[c]? = W.heap[c]? := fun W i u => heap_setCell_other _ _ _ _ (by simpa using fun h => hbc h.symm)
  have X5 : Hid (FltR (((((w.setCell ⟨b, 0, none⟩ (.int .u32 (p : Int))).setCell ⟨b, 1, none⟩ (.int .u8 (m : Int))).setCell ⟨b, 2, none⟩ (.int .i8 a)).setCell ⟨b, 3, none⟩ (.int .u8 (1 : Int))).setCell ⟨b, 4, none⟩ (.bool neg)) c p m a 1 neg v e) := Lib.hid (by
    unfold FltR; rw [hne, hne, hne, hne, hne]; exact hx)
  clear h hx ho d3 r1 r2 r3 r4 hne
  go_enter Tryz.func129, Tryz.ntmps129
  go_wp2
  (refine wp_region_hoist 9 (by kernel_rfl) (by kernel_rfl) ⟨fun _ _ _ h => (by first | exact (hQp _ _ _ h).elim | cases h.2.1 | (obtain ⟨_, h3, _⟩ := h.2; cases h3)), fun _ _ h => (by first | exact (hQo _ _ h).elim | cases h.1 | (obtain ⟨_, h3, _⟩ := h; cases h3))⟩ ?_; simp only [List.take_succ_cons, List.take_zero, List.drop_succ_cons, List.drop_zero]; (repeat (go_big_quiet_step (fail))); refine wpQuiet_nil ?_; rintro _ ⟨nq, rfl⟩)
  go_wp2_with fail
  refine (set_nil v ws _ (V5.out.drewN _) (by omega)).mono ?_
  rintro _ w6 ⟨r, rfl, ho, hb⟩
  have hSr := ho.isS
  have hb' := undrewN hb
  have R6 := R5.out.below hb'
  have X6 := X5.out.below hb'
  have B6 := B5.out.trans (hb'.mono (by simp; omega))
  have O6 : Own w6 B 116 r (cellsW ws) := ho.mono (show B ≤ _ by simp; omega)
  obtain ⟨g0, g1, g2, g3, g4, g5, g6⟩ := R6.cells
  obtain ⟨k0, k1, k2, k3, k4, k5, k6⟩ := R6.free
  obtain ⟨x0, x1, x2, x3, x4, x5, x6⟩ := X6.cells
  have FR := Lib.hid ((R6.s5 r).s6 e)
  have FO := Lib.hid ((R6.s5 r).own (R6.own O6 5 r) 6 (.int .i32 e))
  have FB := Lib.hid (bset (i := 6) (u := .int .i32 e) (bset (i := 5) (u := r) B6 hB) hB)
  clear ho hb hb' R6 X6 B6 O6 c0 c1 c2 c3 c4 c5 c6 f0 f1 f2 f3 f4 f5 f6 d0 d1 d2 d3' d4 d5 d6 hcmp
  go_wp2
  go_ret
  exact ⟨rfl, r, FR.out, FO.out, FB.out⟩
set_option maxRecDepth 100000 in
set_option maxHeartbeats 1600000 in
theorem setMantExp_exact (b B c p0 m0 f0' p m : Nat) (a0 e0 a e x : Int) (n0 neg : Bool) (v : Value) (ws : List Nat) (w : World) (h : FltR w b p0 m0 a0 f0' n0 (.slice none 0 0) e0) (hB : B ≤ b) (hx : FltR w c p m a 1 neg v e) (hbc : b ≠ c) {Bx : Nat} (ho : Own w Bx 116 v (cellsW ws)) (hd : ∀ d ∈ ws, d < 18446744073709551616)
    (hf : Fits ws p) (h0 : 0 < ws.length) (hl : ws.length ≤ 1000000) (hp0 : 0 < p) (hp : p ≤ 64000000) (he1 : -1050000000 ≤ e) (he2 : e ≤ 1050000000) (hx1 : -1050000000 ≤ x) (hx2 : x ≤ 1050000000) :
    Calls Tryz.prog 87 #[.pointer (some ⟨b, 0, none⟩), .pointer (some ⟨c, 0, none⟩), .int .i64 x] w fun e' w' => e' = .returned (.pointer (some ⟨b, 0, none⟩)) ∧ ∃ r, FltR w' b p m 0 1 neg r (e + x) ∧ Own w' B 116 r (cellsW ws) ∧ Below B w w' := by
  have H := Lib.hid h
  have HX := Lib.hid hx
  have HO := Lib.hid ho
  have HD := Lib.hid hd
  have HF := Lib.hid hf
  clear h hx ho hd hf
  go_enter Tryz.func87, Tryz.ntmps87
  go_wp2_with fail
  refine (copyF b B c p0 m0 f0' p m a0 e0 a e n0 neg v ws w H.out hB HX.out hbc HO.out HD.out hl).mono ?_
  rintro _ w1 ⟨rfl, r, h1, ho1, hb1⟩
  obtain ⟨c0, c1, c2, c3, c4, c5, c6⟩ := h1.cells
  have c3' : w1.cell? ⟨b, 3, none⟩ = some (.int .u8 1) := c3
  have H1 := Lib.hid h1
  have O1 := Lib.hid ho1
  have B1 := Lib.hid hb1
  clear h1 ho1 hb1 c3
  go_wp2_with fail
  refine (setExp_exact b B p m 1 a e (e + x) neg r ws w1 H1.out hB O1.out HD.out HF.out h0 hl hp0 hp (by omega) (by omega)).mono ?_
  rintro _ w2 ⟨rfl, r1, r2, r3⟩
  have Q := Lib.hid (⟨r1, r2, B1.out.trans r3⟩ : FltR w2 b p m 0 1 neg r (e + x) ∧ Own w2 B 116 r (cellsW ws) ∧ Below B w w2)
  clear r1 r2 r3
  go_wp2
  go_ret
  exact ⟨rfl, r, Q.out⟩
end Go.Proofs.YtllhnjpnkmjopaaGreatDoor
