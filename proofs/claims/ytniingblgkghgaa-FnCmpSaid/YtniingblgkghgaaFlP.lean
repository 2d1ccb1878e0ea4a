/-
Signs of floats, the statements' reals. No condition.
-/
import Derived.Test.YtniingblgkghgaaFlO
namespace Go.Proofs.Ytniingblgkghgaa
open Go.RowKit

def sgF (f : Nat) (neg : Bool) : Int := if f = 0 then 0 else if neg then -1 else 1
set_option maxRecDepth 100000 in
theorem fSign (b p m f : Nat) (a e : Int) (neg : Bool) (v : Value) (w : World) (h : FltR w b p m a f neg v e) :
    Calls Try.prog 41 #[.pointer (some ⟨b, 0, none⟩)] w fun e' w' => e' = .returned (.int .i64 (sgF f neg)) ∧ w = w' := by
  obtain ⟨c0, c1, c2, c3, c4, c5, c6⟩ := h.cells
  clear h
  by_cases hf : f = 0
  · subst hf
    have t1 : (((0 : Nat) : Int) == 0) = true := rfl
    have c3' : w.cell? ⟨b, 3, none⟩ = some (.int .u8 0) := c3
    have E : Hid (sgF 0 neg = 0) := Lib.hid rfl
    clear c3
    go_enter Try.func41, Try.ntmps41
    go_wp2
    go_ret
    exact ⟨congrArg (fun z => Ending.returned (.int .i64 z)) E.out.symm, rfl⟩
  · have t1 : ((f : Int) == 0) = false := by rw [beq_eq_false_iff_ne]; omega
    have E : Hid (sgF f neg = if neg then -1 else 1) := Lib.hid (by unfold sgF; rw [if_neg hf])
    clear hf
    cases neg
    · go_enter Try.func41, Try.ntmps41
      go_wp2
      go_ret
      exact ⟨congrArg (fun z => Ending.returned (.int .i64 z)) E.out.symm, rfl⟩
    · go_enter Try.func41, Try.ntmps41
      go_wp2
      go_ret
      exact ⟨congrArg (fun z => Ending.returned (.int .i64 z)) E.out.symm, rfl⟩
set_option maxRecDepth 100000 in
theorem fSignbit (b p m f : Nat) (a e : Int) (neg : Bool) (v : Value) (w : World) (h : FltR w b p m a f neg v e) :
    Calls Try.prog 42 #[.pointer (some ⟨b, 0, none⟩)] w fun e' w' => e' = .returned (.bool neg) ∧ w = w' := by
  obtain ⟨c0, c1, c2, c3, c4, c5, c6⟩ := h.cells
  clear h
  go_enter Try.func42, Try.ntmps42
  go_wp2
  go_ret
  exact ⟨rfl, rfl⟩
/-- A Real that the statements take. -/
def RealOk (P E p m f : Nat) (ws : List Nat) (e : Int) : Prop :=
  0 < p ∧ p ≤ P ∧ m ≤ 5 ∧ (f = 0 ∨ f = 2 ∨ (f = 1 ∧ 0 < wv ws ∧ bl (wv ws) ≤ p ∧ ws.length ≤ 1000000 ∧ -(E : Int) ≤ e ∧ e ≤ E))
theorem float_any (P E p m f : Nat) (neg : Bool) (v : Value) (e : Int) (ws : List Nat) (w : World) (hv : RW w v ws) (ho : RealOk P E p m f ws e) (hP : P ≤ 64000000) (hE : E ≤ 1000000000) :
    Calls Try.prog 40 #[.agg #[.int .u64 p, .int .i64 m, .int .i64 f, .bool neg, v, .int .i64 e]] w fun e' w' => ∃ g, e' = .returned (.pointer (some ⟨g, 0, none⟩)) ∧ FloatAt w' w.heap.size g p m f neg (wv ws) e ∧ Below w.heap.size w w' := by
  obtain ⟨h1, h2, h3, rfl | rfl | ⟨rfl, h4, h5, h6, h7, h8⟩⟩ := ho
  · exact float_zero p m neg v e (wv ws) w hv.isS h1 (by omega) (by omega)
  · exact float_inf p m neg v e (wv ws) w hv.isS h1 (by omega) (by omega)
  · exact float_one p m neg v e ws w hv h6 h4 h5 (by omega) (by omega) (by omega) (by omega)
set_option maxRecDepth 100000 in
set_option maxHeartbeats 800000 in
theorem impSignF (P E p m f : Nat) (neg : Bool) (v : Value) (e : Int) (ws : List Nat) (w : World) (hv : RW w v ws) (ho : RealOk P E p m f ws e) (hP : P ≤ 64000000) (hE : E ≤ 1000000000) :
    Calls Try.prog 16 #[.agg #[.int .u64 p, .int .i64 m, .int .i64 f, .bool neg, v, .int .i64 e]] w fun e' w' => e' = .returned (.int .i64 (sgF f neg)) ∧ Below w.heap.size w w' := by
  have hS := hv.isS
  have hab := (Below.refl w.heap.size w).alloc (Nat.le_refl _) (.cells #[.int .u64 p, .int .i64 m, .int .i64 f, .bool neg, v, .int .i64 e] 27)
  have HV := Lib.hid (hv.below hab)
  have HO := Lib.hid ho
  have HB := Lib.hid hab
  clear hv ho hab
  go_enter Try.func16, Try.ntmps16
  go_wp2_with fail
  refine (float_any P E p m f neg v e ws _ HV.out HO.out hP hE).mono ?_
  rintro _ w1 ⟨g, rfl, ⟨-, r, x, hF, -⟩, hb1⟩
  have HF := Lib.hid hF
  have HB1 := Lib.hid (bthen HB.out hb1)
  clear hF hb1
  go_wp2_with fail
  refine (fSign g p m f 0 x neg r w1 HF.out).mono ?_
  rintro _ _ ⟨rfl, rfl⟩
  go_wp2
  go_ret
  exact ⟨rfl, HB1.out⟩
set_option maxRecDepth 100000 in
set_option maxHeartbeats 800000 in
theorem impSignbit (P E p m f : Nat) (neg : Bool) (v : Value) (e : Int) (ws : List Nat) (w : World) (hv : RW w v ws) (ho : RealOk P E p m f ws e) (hP : P ≤ 64000000) (hE : E ≤ 1000000000) :
    Calls Try.prog 17 #[.agg #[.int .u64 p, .int .i64 m, .int .i64 f, .bool neg, v, .int .i64 e]] w fun e' w' => e' = .returned (.bool neg) ∧ Below w.heap.size w w' := by
  have hS := hv.isS
  have hab := (Below.refl w.heap.size w).alloc (Nat.le_refl _) (.cells #[.int .u64 p, .int .i64 m, .int .i64 f, .bool neg, v, .int .i64 e] 27)
  have HV := Lib.hid (hv.below hab)
  have HO := Lib.hid ho
  have HB := Lib.hid hab
  clear hv ho hab
  go_enter Try.func17, Try.ntmps17
  go_wp2_with fail
  refine (float_any P E p m f neg v e ws _ HV.out HO.out hP hE).mono ?_
  rintro _ w1 ⟨g, rfl, ⟨-, r, x, hF, -⟩, hb1⟩
  have HF := Lib.hid hF
  have HB1 := Lib.hid (bthen HB.out hb1)
  clear hF hb1
  go_wp2_with fail
  refine (fSignbit g p m f 0 x neg r w1 HF.out).mono ?_
  rintro _ _ ⟨rfl, rfl⟩
  go_wp2
  go_ret
  exact ⟨rfl, HB1.out⟩
set_option maxRecDepth 100000 in
theorem zzFits1_any (p m f e : Int) (neg : Bool) (v : Value) (ws : List Nat) (w : World) (hv : RW w v ws) :
    Calls Try.prog 14 #[.agg #[.int .u64 p, .int .i64 m, .int .i64 f, .bool neg, v, .int .i64 e]] w fun e' w' => e' = .returned (.bool (decide (ws.length ≤ 2147483647))) ∧ Below w.heap.size w w' := by
  have hSv := hv.isS
  have hLv := hv.len
  have hab := (Below.refl w.heap.size w).alloc (Nat.le_refl _) (.cells #[.int .u64 p, .int .i64 m, .int .i64 f, .bool neg, v, .int .i64 e] 27)
  clear hv
  by_cases h : ws.length ≤ 2147483647
  · have hd : decide (ws.length ≤ 2147483647) = true := decide_eq_true h
    rw [hd]
    go_enter Try.func14, Try.ntmps14
    go_wp2
    go_ret
    exact ⟨rfl, hab⟩
  · have hd : decide (ws.length ≤ 2147483647) = false := decide_eq_false h
    rw [hd]
    go_enter Try.func14, Try.ntmps14
    go_wp2
    go_ret
    exact ⟨rfl, hab⟩
end Go.Proofs.Ytniingblgkghgaa
