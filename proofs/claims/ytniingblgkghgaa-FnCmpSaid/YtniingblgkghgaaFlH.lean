/-
Two numbers of 64 bits are compared as floats: the thin package's CmpInt and the statement. No condition.
-/
import Derived.Test.YtniingblgkghgaaFlG
namespace Go.Proofs.Ytniingblgkghgaa
open Go.RowKit

theorem cmpI_bd (a b : Int) : -1 ≤ cmpI a b ∧ cmpI a b ≤ 1 := by unfold cmpI; split; omega; split <;> omega
theorem SIV.below {w w' : World} {B b m : Nat} {x : Int} (h : SIV w B b m x) (hb : Below w.heap.size w w') : SIV w' B b m x := by
  rcases h with ⟨h0, v, e, hF⟩ | ⟨h0, v, hF, ho⟩
  · exact .inl ⟨h0, v, e, hF.below hb⟩
  · exact .inr ⟨h0, v, hF.below hb, ho.below hb⟩
theorem one_lt {d : Nat} (h : d < 18446744073709551616) : ∀ z ∈ [d], z < 18446744073709551616 := by simpa using h
set_option maxRecDepth 100000 in
set_option maxHeartbeats 800000 in
theorem cmpF_int (b1 b2 B1 B2 m1 m2 : Nat) (x y : Int) (w : World) (h1 : SIV w B1 b1 m1 x) (h2 : SIV w B2 b2 m2 y) (hx1 : -9223372036854775808 ≤ x) (hx2 : x ≤ 9223372036854775807) (hy1 : -9223372036854775808 ≤ y) (hy2 : y ≤ 9223372036854775807) :
    Calls Try.prog 38 #[.pointer (some ⟨b1, 0, none⟩), .pointer (some ⟨b2, 0, none⟩)] w fun e' w' => e' = .returned (.int .i64 (cmpI x y)) ∧ ∃ n, w' = w.drewN n := by
  rcases h1 with ⟨rfl, v1, e1, hF1⟩ | ⟨h0, v1, hF1, ho1⟩ <;> rcases h2 with ⟨rfl, v2, e2, hF2⟩ | ⟨h0', v2, hF2, ho2⟩
  · refine (cmpF_any b1 b2 _ _ _ _ _ _ _ _ _ _ _ _ _ _ [] [] w hF1 hF2 (by decide) (by decide) (fun h => by cases h) (fun h => by cases h) (by decide) (by decide)).mono ?_
    rintro _ _ ⟨rfl, hn⟩
    exact ⟨rfl, hn⟩
  · have hl := shl_top (x := y.natAbs) (by omega) (by omega)
    refine (cmpF_any b1 b2 _ _ _ _ _ _ _ _ _ _ _ _ _ _ [] _ w hF1 hF2 (by decide) (by decide) (fun h => by cases h) (fun _ => ho2.rw' (one_lt hl.1)) (by decide) (by simp)).mono ?_
    rintro _ _ ⟨rfl, hn⟩
    exact ⟨ret_int (cmpFV_zl _ _ h0' _ _), hn⟩
  · have hl := shl_top (x := x.natAbs) (by omega) (by omega)
    refine (cmpF_any b1 b2 _ _ _ _ _ _ _ _ _ _ _ _ _ _ _ [] w hF1 hF2 (by decide) (by decide) (fun _ => ho1.rw' (one_lt hl.1)) (fun h => by cases h) (by simp) (by decide)).mono ?_
    rintro _ _ ⟨rfl, hn⟩
    exact ⟨ret_int (cmpFV_zr _ _ h0 _ _), hn⟩
  · have hl := shl_top (x := x.natAbs) (by omega) (by omega)
    have hl' := shl_top (x := y.natAbs) (by omega) (by omega)
    refine (cmpF_any b1 b2 _ _ _ _ _ _ _ _ _ _ _ _ _ _ _ _ w hF1 hF2 (by decide) (by decide) (fun _ => ho1.rw' (one_lt hl.1)) (fun _ => ho2.rw' (one_lt hl'.1)) (by simp) (by simp)).mono ?_
    rintro _ _ ⟨rfl, hn⟩
    exact ⟨ret_int (cmpFV_int h0 h0'), hn⟩
/-- A new Float. -/
def newF : Obj := .cells #[.int .u32 0, .int .u8 0, .int .i8 0, .int .u8 0, .bool false, .slice none 0 0, .int .i32 0] 74
theorem newF_row (w : World) : FltR (w.alloc newF) w.heap.size 0 0 0 0 false (.slice none 0 0) 0 := box_row (Below.refl _ _)
theorem fbone {W : World} (o : Obj) : Below W.heap.size W (W.alloc o) := (Below.refl _ _).alloc (Nat.le_refl _) _
set_option maxRecDepth 100000 in
set_option maxHeartbeats 800000 in
theorem impCmpInt (x y : Int) (w : World) (hx1 : -9223372036854775808 ≤ x) (hx2 : x ≤ 9223372036854775807) (hy1 : -9223372036854775808 ≤ y) (hy2 : y ≤ 9223372036854775807) :
    Calls Try.prog 13 #[.int .i64 x, .int .i64 y] w fun e' w' => e' = .returned (.int .i64 (cmpI x y)) ∧ Below w.heap.size w w' := by
  go_enter Try.func13, Try.ntmps13
  go_wp2_with fail
  refine (setInt64_0 w.heap.size w.heap.size _ _ _ _ _ x _ (newF_row w) (Nat.le_refl _) hx1 hx2).mono ?_
  rintro _ w1 ⟨rfl, hS1, hb1⟩
  have hb1' := (fbone (W := w) newF).trans hb1
  have HS1 := Lib.hid hS1
  have HB1 := Lib.hid hb1'
  clear hS1 hb1 hb1'
  go_wp2_with fail
  refine (setInt64_0 w1.heap.size w1.heap.size _ _ _ _ _ y _ (newF_row w1) (Nat.le_refl _) hy1 hy2).mono ?_
  rintro _ w2 ⟨rfl, hS2, hb2⟩
  have hb2' := (fbone (W := w1) newF).trans hb2
  have HS2 := Lib.hid hS2
  have HS1' := Lib.hid (HS1.out.below hb2')
  have HB2 := Lib.hid (bthen HB1.out hb2')
  clear hS2 hb2 hb2'
  go_wp2_with fail
  refine (cmpF_int w.heap.size w1.heap.size _ _ _ _ x y w2 HS1'.out HS2.out hx1 hx2 hy1 hy2).mono ?_
  rintro _ _ ⟨rfl, n, rfl⟩
  go_wp2
  go_ret
  exact ⟨rfl, undrewN' HB2.out⟩
set_option maxRecDepth 100000 in
set_option maxHeartbeats 800000 in
theorem lawCmpInt (x y : Int) (w : World) (hx1 : -9223372036854775808 ≤ x) (hx2 : x ≤ 9223372036854775807) (hy1 : -9223372036854775808 ≤ y) (hy2 : y ≤ 9223372036854775807) :
    Calls Try.prog 3 #[.int .i64 x, .int .i64 y] w fun e' w' => e' = .returned (.bool true) ∧ Below w.heap.size w w' := by
  by_cases h1 : x < y
  · have t1 : decide (x < y) = true := decide_eq_true h1
    have t2 : decide (y < x) = false := decide_eq_false (by omega)
    have HE := Lib.hid (show cmpI x y = -1 from if_pos h1)
    clear h1
    go_enter Try.func3, Try.ntmps3
    go_wp2_with fail
    refine (impCmpInt x y w hx1 hx2 hy1 hy2).mono ?_
    rintro _ w1 ⟨rfl, hb⟩
    rw [HE.out]
    go_wp2
    go_ret
    exact ⟨rfl, hb⟩
  · have t1 : decide (x < y) = false := decide_eq_false h1
    by_cases h2 : y < x
    · have t2 : decide (y < x) = true := decide_eq_true h2
      have HE := Lib.hid (show cmpI x y = 1 by unfold cmpI; rw [if_neg h1, if_pos h2])
      clear h1 h2
      go_enter Try.func3, Try.ntmps3
      go_wp2_with fail
      refine (impCmpInt x y w hx1 hx2 hy1 hy2).mono ?_
      rintro _ w1 ⟨rfl, hb⟩
      rw [HE.out]
      go_wp2
      go_ret
      exact ⟨rfl, hb⟩
    · have t2 : decide (y < x) = false := decide_eq_false h2
      have HE := Lib.hid (show cmpI x y = 0 by unfold cmpI; rw [if_neg h1, if_neg h2])
      clear h1 h2
      go_enter Try.func3, Try.ntmps3
      go_wp2_with fail
      refine (impCmpInt x y w hx1 hx2 hy1 hy2).mono ?_
      rintro _ w1 ⟨rfl, hb⟩
      rw [HE.out]
      go_wp2
      go_ret
      exact ⟨rfl, hb⟩
end Go.Proofs.Ytniingblgkghgaa
