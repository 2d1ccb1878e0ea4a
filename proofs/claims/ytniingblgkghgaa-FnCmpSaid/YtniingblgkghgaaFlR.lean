/-
The statement on a float's sign. No condition.
-/
import Derived.Test.YtniingblgkghgaaFlQ
namespace Go.Proofs.Ytniingblgkghgaa
open Go.RowKit

theorem ks12 {W X : World} {k : Nat} {a b c d e f : Value} {T : TypeId} (hr : W.heap[k]? = some (.cells #[a, b, c, d, e, f] T (0, 0))) (h : Below W.heap.size W X) :
    Below W.heap.size W X ∧ X.cell? ⟨k, 0, none⟩ = some a ∧ X.cell? ⟨k, 1, none⟩ = some b ∧ X.cell? ⟨k, 2, none⟩ = some c ∧ X.cell? ⟨k, 3, none⟩ = some d ∧ X.cell? ⟨k, 4, none⟩ = some e ∧ X.cell? ⟨k, 5, none⟩ = some f :=
  ⟨h, (row_at (keep_row h hr) rfl).1, (row_at (keep_row h hr) rfl).1, (row_at (keep_row h hr) rfl).1, (row_at (keep_row h hr) rfl).1, (row_at (keep_row h hr) rfl).1, (row_at (keep_row h hr) rfl).1⟩
set_option maxRecDepth 100000 in
set_option maxHeartbeats 1600000 in
theorem lawSign (p : Nat) (m f : Int) (neg : Bool) (v : Value) (e : Int) (ws : List Nat) (w : World) (hv : RW w v ws)
    (hg : p ≤ 18446744073709551615 ∧ (-9223372036854775808 ≤ m ∧ m ≤ 9223372036854775807) ∧ (-9223372036854775808 ≤ f ∧ f ≤ 9223372036854775807) ∧ (-9223372036854775808 ≤ e ∧ e ≤ 9223372036854775807)) :
    Calls Try.prog 4 #[.agg #[.int .u64 p, .int .i64 m, .int .i64 f, .bool neg, v, .int .i64 e]] w fun e' w' => e' = .returned (.bool true) ∧ Below w.heap.size w w' := by
  have hS := hv.isS
  clear hg
  have hab := (Below.refl w.heap.size w).alloc (Nat.le_refl _) (.cells #[.int .u64 p, .int .i64 m, .int .i64 f, .bool neg, v, .int .i64 e] 27)
  obtain ⟨W, hW⟩ : ∃ W, W = w.alloc (.cells #[.int .u64 p, .int .i64 m, .int .i64 f, .bool neg, v, .int .i64 e] 27) := ⟨_, rfl⟩
  have hrow : W.heap[w.heap.size]? = some (.cells #[.int .u64 p, .int .i64 m, .int .i64 f, .bool neg, v, .int .i64 e] 27 (0, 0)) := by rw [hW]; exact box_row (Below.refl _ _)
  rw [← hW] at hab
  obtain ⟨-, x0, x1, x2, x3, x4, x5⟩ := ks12 hrow (Below.refl _ _)
  have HR := Lib.hid hrow
  have HV := Lib.hid (hv.below hab)
  have hWs := hab.size
  have HAB := Lib.hid hab
  clear hrow hv hab
  go_enter Try.func4, Try.ntmps4
  go_upto_region 1 with fail
  rw [← hW]
  clear hW
  go_wp2_with fail
  refine (zzFits1_any p m f e neg v ws W HV.out).mono ?_
  rintro _ w1 ⟨rfl, hb1⟩
  obtain ⟨-, y0, y1, y2, y3, y4, y5⟩ := ks12 HR.out hb1
  have HB1 := Lib.hid hb1
  have HW1 := Lib.hid (HAB.out.trans (hb1.mono hWs))
  obtain ⟨fits, hfits⟩ : ∃ f, f = decide (ws.length ≤ 2147483647) := ⟨_, rfl⟩
  rw [← hfits]
  clear hfits hb1 x0 x1 x2 x3 x4 x5
  cases fits with
  | false =>
    go_wp2
    go_ret
    exact ⟨rfl, HW1.out⟩
  | true =>
    go_wp2_with fail
    refine (real_any 300 1000 p m f e neg v ws w1 (HV.out.below HB1.out) (by decide) (by decide)).mono ?_
    rintro _ w2 ⟨ok, rfl, hok, hb2⟩
    have hbt := bthen HB1.out hb2
    have hr2 := keep_row hbt HR.out
    have HB2 := Lib.hid hbt
    have HW2 := Lib.hid (HAB.out.trans (hbt.mono hWs))
    have HOK := Lib.hid hok
    have HR2 := Lib.hid hr2
    obtain ⟨-, z0, z1, z2, z3, z4, z5⟩ := ks12 hr2 (Below.refl _ _)
    clear hb2 hbt hr2 hok y0 y1 y2 y3 y4 y5
    cases ok with
    | false =>
      go_wp2
      go_ret
      exact ⟨rfl, HW2.out⟩
    | true =>
      obtain ⟨p', m', f', hp', rfl, rfl, hR⟩ := HOK.out rfl
      have hpp : p' = p := by omega
      subst hpp
      clear HOK hp'
      have HRO := Lib.hid hR
      have V2 := Lib.hid (HV.out.below HB2.out)
      have hcc := Below.refl w2.heap.size w2
      clear hR
      by_cases f0 : f' = 0
      · have t0 : ((f' : Int) == 0) = true := by rw [f0]; rfl
        cases neg with
        | false =>
          have HE : Hid (sgF f' false = 0) := Lib.hid (by unfold sgF; simp [f0])
          clear f0
          go_wp2_with fail
          first
            | (go_region_held3 (fun w' => Below w2.heap.size w2 w' ∧ w'.cell? ⟨w.heap.size, 0, none⟩ = some (.int .u64 (p' : Int)) ∧ w'.cell? ⟨w.heap.size, 1, none⟩ = some (.int .i64 (m' : Int)) ∧ w'.cell? ⟨w.heap.size, 2, none⟩ = some (.int .i64 (f' : Int)) ∧ w'.cell? ⟨w.heap.size, 3, none⟩ = some (.bool false) ∧ w'.cell? ⟨w.heap.size, 4, none⟩ = some v ∧ w'.cell? ⟨w.heap.size, 5, none⟩ = some (.int .i64 e))
                ((refine ks12 HR2.out ?_; first | assumption | exact Below.drew hcc))
                (first
                  | (go_at_call 16; refine (impSignF 300 1000 p' m' f' false v e ws _ (V2.out.below (And.left (by assumption))) HRO.out (by decide) (by decide)).mono ?_; rintro _ w3 ⟨rfl, hb3⟩; rw [HE.out]; have hb3 := bthenL hb3 (by assumption))
                  | (go_at_call 17; refine (impSignbit 300 1000 p' m' f' false v e ws _ (V2.out.below hb3) HRO.out (by decide) (by decide)).mono ?_; rintro _ w4 ⟨rfl, hb4⟩; have hb4 := bthen hb3 hb4)))
            | fail
          all_goals
            go_wp2
            go_ret
            exact ⟨rfl, HW2.out.trans (hb4.mono HW2.out.size)⟩
        | true =>
          have HE : Hid (sgF f' true = 0) := Lib.hid (by unfold sgF; simp [f0])
          clear f0
          go_wp2_with fail
          first
            | (go_region_held3 (fun w' => Below w2.heap.size w2 w' ∧ w'.cell? ⟨w.heap.size, 0, none⟩ = some (.int .u64 (p' : Int)) ∧ w'.cell? ⟨w.heap.size, 1, none⟩ = some (.int .i64 (m' : Int)) ∧ w'.cell? ⟨w.heap.size, 2, none⟩ = some (.int .i64 (f' : Int)) ∧ w'.cell? ⟨w.heap.size, 3, none⟩ = some (.bool true) ∧ w'.cell? ⟨w.heap.size, 4, none⟩ = some v ∧ w'.cell? ⟨w.heap.size, 5, none⟩ = some (.int .i64 e))
                ((refine ks12 HR2.out ?_; first | assumption | exact Below.drew hcc))
                (first
                  | (go_at_call 16; refine (impSignF 300 1000 p' m' f' true v e ws _ (V2.out.below (And.left (by assumption))) HRO.out (by decide) (by decide)).mono ?_; rintro _ w3 ⟨rfl, hb3⟩; rw [HE.out]; have hb3 := bthenL hb3 (by assumption))
                  | (go_at_call 17; refine (impSignbit 300 1000 p' m' f' true v e ws _ (V2.out.below hb3) HRO.out (by decide) (by decide)).mono ?_; rintro _ w4 ⟨rfl, hb4⟩; have hb4 := bthen hb3 hb4)))
            | fail
          all_goals
            go_wp2
            go_ret
            exact ⟨rfl, HW2.out.trans (hb4.mono HW2.out.size)⟩
      · have t0 : ((f' : Int) == 0) = false := by rw [beq_eq_false_iff_ne]; omega
        cases neg with
        | false =>
          have HE : Hid (sgF f' false = 1) := Lib.hid (by unfold sgF; simp [f0])
          clear f0
          go_wp2_with fail
          first
            | (go_region_held3 (fun w' => Below w2.heap.size w2 w' ∧ w'.cell? ⟨w.heap.size, 0, none⟩ = some (.int .u64 (p' : Int)) ∧ w'.cell? ⟨w.heap.size, 1, none⟩ = some (.int .i64 (m' : Int)) ∧ w'.cell? ⟨w.heap.size, 2, none⟩ = some (.int .i64 (f' : Int)) ∧ w'.cell? ⟨w.heap.size, 3, none⟩ = some (.bool false) ∧ w'.cell? ⟨w.heap.size, 4, none⟩ = some v ∧ w'.cell? ⟨w.heap.size, 5, none⟩ = some (.int .i64 e))
                ((refine ks12 HR2.out ?_; first | assumption | exact Below.drew hcc))
                (first
                  | (go_at_call 16; refine (impSignF 300 1000 p' m' f' false v e ws _ (V2.out.below (And.left (by assumption))) HRO.out (by decide) (by decide)).mono ?_; rintro _ w3 ⟨rfl, hb3⟩; rw [HE.out]; have hb3 := bthenL hb3 (by assumption))
                  | (go_at_call 17; refine (impSignbit 300 1000 p' m' f' false v e ws _ (V2.out.below hb3) HRO.out (by decide) (by decide)).mono ?_; rintro _ w4 ⟨rfl, hb4⟩; have hb4 := bthen hb3 hb4)))
            | fail
          all_goals
            go_wp2
            go_ret
            exact ⟨rfl, HW2.out.trans (hb4.mono HW2.out.size)⟩
        | true =>
          have HE : Hid (sgF f' true = -1) := Lib.hid (by unfold sgF; simp [f0])
          clear f0
          go_wp2_with fail
          first
            | (go_region_held3 (fun w' => Below w2.heap.size w2 w' ∧ w'.cell? ⟨w.heap.size, 0, none⟩ = some (.int .u64 (p' : Int)) ∧ w'.cell? ⟨w.heap.size, 1, none⟩ = some (.int .i64 (m' : Int)) ∧ w'.cell? ⟨w.heap.size, 2, none⟩ = some (.int .i64 (f' : Int)) ∧ w'.cell? ⟨w.heap.size, 3, none⟩ = some (.bool true) ∧ w'.cell? ⟨w.heap.size, 4, none⟩ = some v ∧ w'.cell? ⟨w.heap.size, 5, none⟩ = some (.int .i64 e))
                ((refine ks12 HR2.out ?_; first | assumption | exact Below.drew hcc))
                (first
                  | (go_at_call 16; refine (impSignF 300 1000 p' m' f' true v e ws _ (V2.out.below (And.left (by assumption))) HRO.out (by decide) (by decide)).mono ?_; rintro _ w3 ⟨rfl, hb3⟩; rw [HE.out]; have hb3 := bthenL hb3 (by assumption))
                  | (go_at_call 17; refine (impSignbit 300 1000 p' m' f' true v e ws _ (V2.out.below hb3) HRO.out (by decide) (by decide)).mono ?_; rintro _ w4 ⟨rfl, hb4⟩; have hb4 := bthen hb3 hb4)))
            | fail
          all_goals
            go_wp2
            go_ret
            exact ⟨rfl, HW2.out.trans (hb4.mono HW2.out.size)⟩
end Go.Proofs.Ytniingblgkghgaa
