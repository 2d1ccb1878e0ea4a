/-
Floats: SetInt64 of a new receiver, ord. No condition.
-/
import Derived.Test.YtniingblgkghgaaFlC
namespace Go.Proofs.Ytniingblgkghgaa
open Go.RowKit

/-- A Float that is an integer of 64 bits. -/
def SIV (w : World) (B b m : Nat) (x : Int) : Prop :=
  (x = 0 ∧ ∃ v e, FltR w b 64 m 0 0 false v e) ∨
  (x ≠ 0 ∧ ∃ v, FltR w b 64 m 0 1 (decide (x < 0)) v (bl x.natAbs : Nat) ∧ Own w B 132 v (cellsW [x.natAbs * 2 ^ (64 - bl x.natAbs)]))
set_option maxRecDepth 100000 in
set_option maxHeartbeats 800000 in
theorem setInt64_0 (b B m f : Nat) (a e : Int) (neg0 : Bool) (x : Int) (w : World) (h : FltR w b 0 m a f neg0 (.slice none 0 0) e) (hB : B ≤ b) (h1 : -9223372036854775808 ≤ x) (h2 : x ≤ 9223372036854775807) :
    Calls Try.prog 37 #[.pointer (some ⟨b, 0, none⟩), .int .i64 x] w fun e' w' => e' = .returned (.pointer (some ⟨b, 0, none⟩)) ∧ SIV w' B b m x ∧ Below B w w' := by
  have H := Lib.hid h
  clear h
  by_cases h0 : x = 0
  · subst h0
    go_enter Try.func37, Try.ntmps37
    go_wp2_with fail
    refine (setBits64_zero b B m f a e false neg0 _ w H.out hB).mono ?_
    rintro _ w1 ⟨rfl, hF, hb⟩
    go_wp2
    go_ret
    exact ⟨rfl, .inl ⟨rfl, _, _, hF⟩, hb⟩
  · have Hn : Hid (0 < x.natAbs) := Lib.hid (by omega)
    have Hl : Hid (x.natAbs < 18446744073709551616) := Lib.hid (by omega)
    have H0 := Lib.hid h0
    by_cases hp : 0 < x
    · have t1 : decide (x < 0) = false := by rw [decide_eq_false_iff_not]; omega
      obtain ⟨n, rfl⟩ := Int.eq_ofNat_of_zero_le (show 0 ≤ x by omega)
      have hn : n < 18446744073709551616 := by omega
      have hn0 : 0 < n := by omega
      clear h0
      go_enter Try.func37, Try.ntmps37
      go_wp2_with fail
      refine (setBits64_pos b B m f a e false neg0 n w H.out hB hn0 hn).mono ?_
      rintro _ w1 ⟨rfl, v, hF, ho, hb⟩
      go_wp2
      go_ret
      exact ⟨rfl, .inr ⟨H0.out, v, by rw [t1]; exact hF, ho⟩, hb⟩
    · have t1 : decide (x < 0) = true := by rw [decide_eq_true_iff]; omega
      obtain ⟨n, hn⟩ : ∃ n, n = x.natAbs := ⟨_, rfl⟩
      rw [← hn] at Hn Hl
      have HN := Lib.hid hn
      have hx : x = -(n : Int) := by omega
      subst hx
      clear h0 hn
      by_cases hm : n = 9223372036854775808
      · subst hm
        go_enter Try.func37, Try.ntmps37
        go_wp2_with fail
        rw [show IntKind.u64.wrap (wrap64 9223372036854775808) = ((9223372036854775808 : Nat) : Int) by decide +kernel]
        refine (setBits64_pos b B m f a e true neg0 9223372036854775808 w H.out hB Hn.out Hl.out).mono ?_
        rintro _ w1 ⟨rfl, v, hF, ho, hb⟩
        go_wp2
        go_ret
        exact ⟨rfl, .inr ⟨H0.out, v, by rw [t1, ← HN.out]; exact hF, by rw [← HN.out]; exact ho⟩, hb⟩
      · have hn2 : n ≤ 9223372036854775807 := by omega
        clear hm
        go_enter Try.func37, Try.ntmps37
        go_wp2_with fail
        refine (setBits64_pos b B m f a e true neg0 n w H.out hB Hn.out Hl.out).mono ?_
        rintro _ w1 ⟨rfl, v, hF, ho, hb⟩
        go_wp2
        go_ret
        exact ⟨rfl, .inr ⟨H0.out, v, by rw [t1, ← HN.out]; exact hF, by rw [← HN.out]; exact ho⟩, hb⟩
/-- What ord answers. -/
def ordV (f : Nat) (neg : Bool) : Int := if neg then -(f : Int) else f
set_option maxRecDepth 100000 in
theorem ord_any (b p m f : Nat) (a e : Int) (neg : Bool) (v : Value) (w : World) (h : FltR w b p m a f neg v e) (hf : f ≤ 2) :
    Calls Try.prog 59 #[.pointer (some ⟨b, 0, none⟩)] w fun e' w' => e' = .returned (.int .i64 (ordV f neg)) ∧ w = w' := by
  obtain ⟨-, -, -, c3, c4, -, -⟩ := h.cells
  clear h
  rcases (by omega : f = 0 ∨ f = 1 ∨ f = 2) with rfl | rfl | rfl
  · have c3' : w.cell? ⟨b, 3, none⟩ = some (.int .u8 0) := c3
    clear c3
    cases neg
    all_goals
      go_enter Try.func59, Try.ntmps59
      go_wp2
      go_ret
      exact ⟨rfl, rfl⟩
  · have c3' : w.cell? ⟨b, 3, none⟩ = some (.int .u8 1) := c3
    clear c3
    cases neg
    all_goals
      go_enter Try.func59, Try.ntmps59
      go_wp2
      go_ret
      exact ⟨rfl, rfl⟩
  · have c3' : w.cell? ⟨b, 3, none⟩ = some (.int .u8 2) := c3
    clear c3
    cases neg
    all_goals
      go_enter Try.func59, Try.ntmps59
      go_wp2
      go_ret
      exact ⟨rfl, rfl⟩
end Go.Proofs.Ytniingblgkghgaa
