/-
Texts of this proof, joined: FlH. No condition.
-/
import Derived.Test.YtlgnaioodnhkjaaK06
/-
Two numbers of 64 bits are compared as floats: the thin package's CmpInt and the statement. No condition.
-/
namespace Go.Proofs.Ytlgnaioodnhkjaa
open Go.RowKit

theorem cmpI_bd (a b : Int) : -1 ≤ cmpI a b ∧ cmpI a b ≤ 1 := by unfold cmpI; split; omega; split <;> omega
theorem SIV.below {w w' : World} {B b m : Nat} {x : Int} (h : SIV w B b m x) (hb : Below w.heap.size w w') : SIV w' B b m x := by
  rcases h with ⟨h0, v, e, hF⟩ | ⟨h0, v, hF, ho⟩
  · exact .inl ⟨h0, v, e, hF.below hb⟩
  · exact .inr ⟨h0, v, hF.below hb, ho.below hb⟩
theorem one_lt {d : Nat} (h : d < 18446744073709551616) : ∀ z ∈ [d], z < 18446744073709551616 := by simpa using h
set_option maxRecDepth 100000 in
set_option maxHeartbeats 800000 in
theorem cmpF_int (b1 b2 B1 B2 m1 m2 : Nat) (x y : Int) (w : World) (h1 : SIV w B1 b1 m1 x) (h2 : SIV w B2 b2 m2 y) (hx1 : -9223372036854775808 ≤ x) (hx2 : x ≤ 9223372036854775807) (hy1 : -9223372036854775808 ≤ y) (hy2 : y ≤ 9223372036854775807) :
    Calls Try.prog 42 #[.pointer (some ⟨b1, 0, none⟩), .pointer (some ⟨b2, 0, none⟩)] w fun e' w' => e' = .returned (.int .i64 (cmpI x y)) ∧ ∃ n, w' = w.drewN n := by
  rcases h1 with ⟨rfl, v1, e1, hF1⟩ | ⟨h0, v1, hF1, ho1⟩ <;> rcases h2 with ⟨rfl, v2, e2, hF2⟩ | ⟨h0', v2, hF2, ho2⟩
  · refine (cmpF_any b1 b2 _ _ _ _ _ _ _ _ _ _ _ _ _ _ [] [] w hF1 hF2 (by decide) (by decide) (fun h => by cases h) (fun h => by cases h) (by decide) (by decide)).mono ?_
    rintro _ _ ⟨rfl, hn⟩
    exact ⟨rfl, hn⟩
  · have hl := shl_top (x := y.natAbs) (by omega) (by omega)
    refine (cmpF_any b1 b2 _ _ _ _ _ _ _ _ _ _ _ _ _ _ [] _ w hF1 hF2 (by decide) (by decide) (fun h => by cases h) (fun _ => ho2.rw' (one_lt hl.1)) (by decide) (by simp)).mono ?_
    rintro _ _ ⟨rfl, hn⟩
    exact ⟨ret_int (cmpFV_zl _ _ h0' _ _), hn⟩
  · have hl := shl_top (x := x.natAbs) (by omega) (by omega)
    refine (cmpF_any b1 b2 _ _ _ _ _ _ _ _ _ _ _ _ _ _ _ [] w hF1 hF2 (by decide) (by decide) (fun _ => ho1.rw' (one_lt hl.1)) (fun h => by cases h) (by simp) (by decide)).mono ?_
    rintro _ _ ⟨rfl, hn⟩
    exact ⟨ret_int (cmpFV_zr _ _ h0 _ _), hn⟩
  · have hl := shl_top (x := x.natAbs) (by omega) (by omega)
    have hl' := shl_top (x := y.natAbs) (by omega) (by omega)
    refine (cmpF_any b1 b2 _ _ _ _ _ _ _ _ _ _ _ _ _ _ _ _ w hF1 hF2 (by decide) (by decide) (fun _ => ho1.rw' (one_lt hl.1)) (fun _ => ho2.rw' (one_lt hl'.1)) (by simp) (by simp)).mono ?_
    rintro _ _ ⟨rfl, hn⟩
    exact ⟨ret_int (cmpFV_int h0 h0'), hn⟩
/-- A new Float. -/
def newF : Obj := .cells #[.int .u32 0, .int .u8 0, .int .i8 0, .int .u8 0, .bool false, .slice none 0 0, .int .i32 0] 89
theorem newF_row (w : World) : FltR (w.alloc newF) w.heap.size 0 0 0 0 false (.slice none 0 0) 0 := box_row (Below.refl _ _)
theorem fbone {W : World} (o : Obj) : Below W.heap.size W (W.alloc o) := (Below.refl _ _).alloc (Nat.le_refl _) _
end Go.Proofs.Ytlgnaioodnhkjaa
