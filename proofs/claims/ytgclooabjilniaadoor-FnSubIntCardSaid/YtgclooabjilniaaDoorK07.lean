/-
Texts of this proof, joined: FlN. No condition.
-/
import Derived.Test.YtgclooabjilniaaDoorK06
/-
Floats: fresh, SetInf, Neg in place, Copy, SetMantExp where nothing is rounded. No condition.
-/
namespace Go.Proofs.YtgclooabjilniaaDoor
open Go.RowKit

theorem sizeF : (Tryd.prog.info? 48).map (·.size) = some 7 := by kernel_rfl
theorem neqF (w : World) {b c : Nat} {cb cc : Array Value} {tb tc : TypeId} (hne : b ≠ c) (hb : w.heap[b]? = some (.cells cb tb (0, 0))) (hc : w.heap[c]? = some (.cells cc tc (0, 0))) :
    (binOp .neq 37 (.pointer (some ⟨b, 0, none⟩)) (.pointer (some ⟨c, 0, none⟩))).run Tryd.prog w = .ok (.bool true) w := by
  obtain ⟨j, hj, hz⟩ := info_size sizeF
  exact run_neq_ptr_other w Tryd.underlying37 hj (by omega) (by simp) hb hc
theorem neqF_same (w : World) (a : Addr) : (binOp .neq 37 (.pointer (some a)) (.pointer (some a))).run Tryd.prog w = .ok (.bool false) w := by
  obtain ⟨j, hj, hz⟩ := info_size sizeF
  exact Lib.run_neq_ptr_same w a Tryd.underlying37 hj
set_option maxRecDepth 100000 in
theorem setPrec_new (b B p m : Nat) (a e : Int) (neg : Bool) (v : Value) (w : World) (h : FltR w b 0 m a 0 neg v e) (hB : B ≤ b) (hp0 : 0 < p) (hp : p ≤ 64000000) :
    Calls Tryd.prog 27 #[.pointer (some ⟨b, 0, none⟩), .int .u64 p] w fun e' w' => e' = .returned (.pointer (some ⟨b, 0, none⟩)) ∧ FltR w' b p m 0 0 neg v e ∧ Below B w w' := by
  obtain ⟨c0, c1, c2, c3, c4, c5, c6⟩ := h.cells
  obtain ⟨f0, f1, f2, f3, f4, f5, f6⟩ := h.free
  have c0' : w.cell? ⟨b, 0, none⟩ = some (.int .u32 0) := c0
  have t1 : ((p : Int) == 0) = false := by rw [beq_eq_false_iff_ne]; omega
  have F := Lib.hid ((h.s2 0).s0 p)
  have FB := Lib.hid (bset (i := 0) (u := .int .u32 (p : Int)) (bset (i := 2) (u := .int .i8 0) (Below.refl B w) hB) hB)
  clear c0 h
  go_enter Tryd.func27, Tryd.ntmps27
  go_wp2
  go_ret
  exact ⟨rfl, F.out, FB.out⟩
set_option maxRecDepth 100000 in
theorem setMode_any (b B p m m' f : Nat) (a e : Int) (neg : Bool) (v : Value) (w : World) (h : FltR w b p m a f neg v e) (hB : B ≤ b) :
    Calls Tryd.prog 28 #[.pointer (some ⟨b, 0, none⟩), .int .u8 m'] w fun e' w' => e' = .returned (.pointer (some ⟨b, 0, none⟩)) ∧ FltR w' b p m' 0 f neg v e ∧ Below B w w' := by
  obtain ⟨c0, c1, c2, c3, c4, c5, c6⟩ := h.cells
  obtain ⟨f0, f1, f2, f3, f4, f5, f6⟩ := h.free
  have F := Lib.hid ((h.s1 m').s2 0)
  have FB := Lib.hid (bset (i := 2) (u := .int .i8 0) (bset (i := 1) (u := .int .u8 (m' : Int)) (Below.refl B w) hB) hB)
  clear h
  go_enter Tryd.func28, Tryd.ntmps28
  go_wp2
  go_ret
  exact ⟨rfl, F.out, FB.out⟩
set_option maxRecDepth 100000 in
theorem fresh_any (p m : Nat) (w : World) (hp0 : 0 < p) (hp : p ≤ 64000000) (hm : m ≤ 255) :
    Calls Tryd.prog 12 #[.int .u64 p, .int .i64 m] w fun e' w' => e' = .returned (.pointer (some ⟨w.heap.size, 0, none⟩)) ∧ FltR w' w.heap.size p m 0 0 false (.slice none 0 0) 0 ∧ Below w.heap.size w w' := by
  go_enter Tryd.func12, Tryd.ntmps12
  go_wp2_with fail
  refine (setPrec_new w.heap.size w.heap.size p 0 0 0 false (.slice none 0 0) _ (newF_row w) (Nat.le_refl _) hp0 hp).mono ?_
  rintro _ w1 ⟨rfl, h1, hb1⟩
  have hb1' := (fbone (W := w) newF).trans hb1
  have H1 := Lib.hid h1
  have HB1 := Lib.hid hb1'
  clear h1 hb1 hb1'
  go_wp2_with fail
  refine (setMode_any w.heap.size w.heap.size p 0 m 0 0 0 false _ w1 H1.out (Nat.le_refl _)).mono ?_
  rintro _ w2 ⟨rfl, h2, hb2⟩
  have H2 := Lib.hid h2
  have HB2 := Lib.hid (HB1.out.trans hb2)
  clear h2 hb2
  go_wp2
  go_ret
  exact ⟨rfl, H2.out, HB2.out⟩
set_option maxRecDepth 100000 in
theorem setF_same (b p m f : Nat) (a e : Int) (neg : Bool) (v : Value) (w : World) (h : FltR w b p m a f neg v e) :
    Calls Tryd.prog 32 #[.pointer (some ⟨b, 0, none⟩), .pointer (some ⟨b, 0, none⟩)] w fun e' w' => e' = .returned (.pointer (some ⟨b, 0, none⟩)) ∧ w' = w.setCell ⟨b, 2, none⟩ (.int .i8 0) := by
  obtain ⟨c0, c1, c2, c3, c4, c5, c6⟩ := h.cells
  obtain ⟨f0, f1, f2, f3, f4, f5, f6⟩ := h.free
  have hcmp := neqF_same (w.setCell ⟨b, 2, none⟩ (.int .i8 0)) ⟨b, 0, none⟩
  clear h
  go_enter Tryd.func32, Tryd.ntmps32
  go_wp2
  go_ret
  exact ⟨rfl, rfl⟩
set_option maxRecDepth 100000 in
theorem negF_same (b B p m f : Nat) (a e : Int) (neg : Bool) (v : Value) (w : World) (h : FltR w b p m a f neg v e) (hB : B ≤ b) :
    Calls Tryd.prog 42 #[.pointer (some ⟨b, 0, none⟩), .pointer (some ⟨b, 0, none⟩)] w fun e' w' => e' = .returned (.pointer (some ⟨b, 0, none⟩)) ∧ FltR w' b p m 0 f (!neg) v e ∧ Below B w w' ∧ Only b w w' := by
  have R2 := h.s2 0
  obtain ⟨c0, c1, c2, c3, c4, c5, c6⟩ := R2.cells
  obtain ⟨f0, f1, f2, f3, f4, f5, f6⟩ := R2.free
  have F := Lib.hid (R2.s4 (!neg))
  have FB := Lib.hid (bset (i := 4) (u := .bool (!neg)) (bset (i := 2) (u := .int .i8 0) (Below.refl B w) hB) hB)
  have FO : Hid (Only b w ((w.setCell ⟨b, 2, none⟩ (.int .i8 0)).setCell ⟨b, 4, none⟩ (.bool (!neg)))) := Lib.hid (fun k hk hne => by
    rw [heap_setCell_other _ _ _ _ (by simpa using hne), heap_setCell_other _ _ _ _ (by simpa using hne)])
  have H := Lib.hid h
  clear h R2
  go_enter Tryd.func42, Tryd.ntmps42
  go_wp2_with fail
  refine (setF_same b p m f a e neg v w H.out).mono ?_
  rintro _ w1 ⟨rfl, hw1⟩
  rw [← hw1] at c0 c1 c2 c3 c4 c5 c6 f0 f1 f2 f3 f4 f5 f6 F FB FO
  clear hw1
  go_wp2
  go_ret
  exact ⟨rfl, F.out, FB.out, FO.out⟩
end Go.Proofs.YtgclooabjilniaaDoor
