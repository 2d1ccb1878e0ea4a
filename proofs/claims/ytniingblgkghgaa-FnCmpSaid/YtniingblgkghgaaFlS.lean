/-
The thin package's Cmp, the statements' end. No condition.
-/
import Derived.Test.YtniingblgkghgaaFlR
namespace Go.Proofs.Ytniingblgkghgaa
open Go.RowKit

theorem FloatAt.below {w w' : World} {B g p m f M : Nat} {neg : Bool} {e : Int} (h : FloatAt w B g p m f neg M e) (hb : Below w.heap.size w w') : FloatAt w' B g p m f neg M e := by
  obtain ⟨h1, r, x, h2, h3⟩ := h
  exact ⟨h1, r, x, h2.below hb, fun hf => ⟨(h3 hf).1, (h3 hf).2.below hb⟩⟩
/-- The order of two Reals as Cmp reckons it. -/
def cmpRV (f1 : Nat) (n1 : Bool) (M1 : Nat) (e1 : Int) (f2 : Nat) (n2 : Bool) (M2 : Nat) (e2 : Int) : Int :=
  cmpFV f1 n1 ((bl M1 : Nat) + e1) (topN M1) f2 n2 ((bl M2 : Nat) + e2) (topN M2)
theorem cmpFV_eq {f1 f2 : Nat} {n1 n2 : Bool} {x1 x2 y1 y2 : Int} {xs ys xs' ys' : List Nat} (h1 : f1 = 1 → x1 = y1 ∧ xs = xs') (h2 : f2 = 1 → x2 = y2 ∧ ys = ys') (hf1 : f1 ≤ 2) (hf2 : f2 ≤ 2) :
    cmpFV f1 n1 x1 xs f2 n2 x2 ys = cmpFV f1 n1 y1 xs' f2 n2 y2 ys' := by
  by_cases c1 : f1 = 1
  · by_cases c2 : f2 = 1
    · rw [(h1 c1).1, (h2 c2).1, (h1 c1).2, (h2 c2).2]
    · rw [(h1 c1).1, (h1 c1).2]
      have : f2 = 0 ∨ f2 = 2 := by omega
      rcases this with rfl | rfl <;> subst c1 <;> cases n1 <;> cases n2 <;> simp [cmpFV, ordV]
  · have c : f1 = 0 ∨ f1 = 2 := by omega
    have d : f2 = 0 ∨ f2 = 1 ∨ f2 = 2 := by omega
    rcases c with rfl | rfl <;> rcases d with rfl | rfl | rfl <;> cases n1 <;> cases n2 <;> simp [cmpFV, ordV]
theorem topN_lt {M : Nat} : ∀ d ∈ topN M, d < 18446744073709551616 := wdsN_lt
theorem topN_if {f M : Nat} (h : f = 1 → nw M ≤ 1000000) : (if f = 1 then topN M else []).length ≤ 1000000000 := by
  split
  · rename_i hf; rw [topN_length]; have := h hf; omega
  · exact Nat.zero_le _
theorem cmpFat {B1 B2 g1 g2 p1 m1 f1 M1 p2 m2 f2 M2 : Nat} {n1 n2 : Bool} {e1 e2 : Int} (w : World) (h1 : FloatAt w B1 g1 p1 m1 f1 n1 M1 e1) (h2 : FloatAt w B2 g2 p2 m2 f2 n2 M2 e2) (hf1 : f1 ≤ 2) (hf2 : f2 ≤ 2) (hl1 : f1 = 1 → nw M1 ≤ 1000000) (hl2 : f2 = 1 → nw M2 ≤ 1000000) :
    Calls Try.prog 38 #[.pointer (some ⟨g1, 0, none⟩), .pointer (some ⟨g2, 0, none⟩)] w fun e' w' => e' = .returned (.int .i64 (cmpRV f1 n1 M1 e1 f2 n2 M2 e2)) ∧ Below w.heap.size w w' := by
  obtain ⟨-, r1, x1, a1, b1⟩ := h1
  obtain ⟨-, r2, x2, a2, b2⟩ := h2
  refine (cmpF_any g1 g2 p1 m1 f1 p2 m2 f2 0 x1 0 x2 n1 n2 r1 r2 (if f1 = 1 then topN M1 else []) (if f2 = 1 then topN M2 else []) w a1 a2 hf1 hf2 (fun h => by rw [if_pos h]; exact (b1 h).2.rw' topN_lt) (fun h => by rw [if_pos h]; exact (b2 h).2.rw' topN_lt) (topN_if hl1) (topN_if hl2)).mono ?_
  rintro _ w' ⟨rfl, n, rfl⟩
  exact ⟨by rw [cmpFV_eq (fun h => ⟨(b1 h).1, if_pos h⟩) (fun h => ⟨(b2 h).1, if_pos h⟩) hf1 hf2]; rfl, undrewN' (Below.refl _ _)⟩
theorem RealOk.form {P E p m f : Nat} {ws : List Nat} {e : Int} (h : RealOk P E p m f ws e) : f ≤ 2 := by
  obtain ⟨_, _, _, h | h | ⟨h, _⟩⟩ := h <;> omega
theorem RealOk.len {P E p m f : Nat} {ws : List Nat} {e : Int} (h : RealOk P E p m f ws e) (hf : f = 1) : ws.length ≤ 1000000 := by
  obtain ⟨_, _, _, h | h | h⟩ := h
  · omega
  · omega
  · exact h.2.2.2.1
theorem ks24 {W X : World} {k l : Nat} {a b c d e f a' b' c' d' e' f' : Value} {T : TypeId} (hr : W.heap[k]? = some (.cells #[a, b, c, d, e, f] T (0, 0))) (hq : W.heap[l]? = some (.cells #[a', b', c', d', e', f'] T (0, 0))) (h : Below W.heap.size W X) :
    Below W.heap.size W X ∧ (X.cell? ⟨k, 0, none⟩ = some a ∧ X.cell? ⟨k, 1, none⟩ = some b ∧ X.cell? ⟨k, 2, none⟩ = some c ∧ X.cell? ⟨k, 3, none⟩ = some d ∧ X.cell? ⟨k, 4, none⟩ = some e ∧ X.cell? ⟨k, 5, none⟩ = some f) ∧
    X.cell? ⟨l, 0, none⟩ = some a' ∧ X.cell? ⟨l, 1, none⟩ = some b' ∧ X.cell? ⟨l, 2, none⟩ = some c' ∧ X.cell? ⟨l, 3, none⟩ = some d' ∧ X.cell? ⟨l, 4, none⟩ = some e' ∧ X.cell? ⟨l, 5, none⟩ = some f' :=
  ⟨h, (ks12 hr h).2, (ks12 hq h).2⟩
set_option maxRecDepth 100000 in
set_option maxHeartbeats 1600000 in
theorem impCmpF (P E p1 m1 f1 p2 m2 f2 : Nat) (n1 n2 : Bool) (v1 v2 : Value) (e1 e2 : Int) (xs ys : List Nat) (w : World) (hv1 : RW w v1 xs) (hv2 : RW w v2 ys) (ho1 : RealOk P E p1 m1 f1 xs e1) (ho2 : RealOk P E p2 m2 f2 ys e2) (hP : P ≤ 64000000) (hE : E ≤ 1000000000) :
    Calls Try.prog 18 #[.agg #[.int .u64 p1, .int .i64 m1, .int .i64 f1, .bool n1, v1, .int .i64 e1], .agg #[.int .u64 p2, .int .i64 m2, .int .i64 f2, .bool n2, v2, .int .i64 e2]] w fun e' w' => e' = .returned (.int .i64 (cmpRV f1 n1 (wv xs) e1 f2 n2 (wv ys) e2)) ∧ Below w.heap.size w w' := by
  have hS1 := hv1.isS
  have hS2 := hv2.isS
  have hnw1 : f1 = 1 → nw (wv xs) ≤ 1000000 := fun h => by have := nw_le (wv_lt hv1.lt); have := ho1.len h; omega
  have hnw2 : f2 = 1 → nw (wv ys) ≤ 1000000 := fun h => by have := nw_le (wv_lt hv2.lt); have := ho2.len h; omega
  have hab := (Below.refl w.heap.size w).alloc (Nat.le_refl _) (.cells #[.int .u64 p1, .int .i64 m1, .int .i64 f1, .bool n1, v1, .int .i64 e1] 27)
  have hac := hab.alloc hab.size (.cells #[.int .u64 p2, .int .i64 m2, .int .i64 f2, .bool n2, v2, .int .i64 e2] 27)
  obtain ⟨X, hX⟩ : ∃ X, X = (w.alloc (.cells #[.int .u64 p1, .int .i64 m1, .int .i64 f1, .bool n1, v1, .int .i64 e1] 27)).alloc (.cells #[.int .u64 p2, .int .i64 m2, .int .i64 f2, .bool n2, v2, .int .i64 e2] 27) := ⟨_, rfl⟩
  have hr1 : X.heap[w.heap.size]? = some (.cells #[.int .u64 p1, .int .i64 m1, .int .i64 f1, .bool n1, v1, .int .i64 e1] 27 (0, 0)) := by
    rw [hX]; exact keep_row (fbone _) (box_row (Below.refl _ _))
  have hr2 : X.heap[w.heap.size + 1]? = some (.cells #[.int .u64 p2, .int .i64 m2, .int .i64 f2, .bool n2, v2, .int .i64 e2] 27 (0, 0)) := by
    rw [hX]
    have := box_row (Below.refl _ ((w.alloc (.cells #[.int .u64 p1, .int .i64 m1, .int .i64 f1, .bool n1, v1, .int .i64 e1] 27)).alloc (.cells #[.int .u64 p2, .int .i64 m2, .int .i64 f2, .bool n2, v2, .int .i64 e2] 27)))
    simpa using this
  rw [← hX] at hac
  have V1 := Lib.hid (hv1.below hac)
  have V2 := Lib.hid (hv2.below hac)
  have HO1 := Lib.hid ho1
  have HO2 := Lib.hid ho2
  have HF1 := Lib.hid ho1.form
  have HF2 := Lib.hid ho2.form
  have HN1 := Lib.hid hnw1
  have HN2 := Lib.hid hnw2
  have HR1 := Lib.hid hr1
  have HR2 := Lib.hid hr2
  have hwX := Lib.hid hac
  have hcc := Below.refl X.heap.size X
  have hXs := hac.size
  clear hv1 hv2 ho1 ho2 hab hac hr1 hr2 hnw1 hnw2
  go_enter Try.func18, Try.ntmps18
  go_upto_region 1 with fail
  rw [← hX]
  clear hX
  first
    | (go_region_held3 (fun w' => Below X.heap.size X w' ∧ (w'.cell? ⟨w.heap.size, 0, none⟩ = some (.int .u64 (p1 : Int)) ∧ w'.cell? ⟨w.heap.size, 1, none⟩ = some (.int .i64 (m1 : Int)) ∧ w'.cell? ⟨w.heap.size, 2, none⟩ = some (.int .i64 (f1 : Int)) ∧ w'.cell? ⟨w.heap.size, 3, none⟩ = some (.bool n1) ∧ w'.cell? ⟨w.heap.size, 4, none⟩ = some v1 ∧ w'.cell? ⟨w.heap.size, 5, none⟩ = some (.int .i64 e1)) ∧ w'.cell? ⟨w.heap.size + 1, 0, none⟩ = some (.int .u64 (p2 : Int)) ∧ w'.cell? ⟨w.heap.size + 1, 1, none⟩ = some (.int .i64 (m2 : Int)) ∧ w'.cell? ⟨w.heap.size + 1, 2, none⟩ = some (.int .i64 (f2 : Int)) ∧ w'.cell? ⟨w.heap.size + 1, 3, none⟩ = some (.bool n2) ∧ w'.cell? ⟨w.heap.size + 1, 4, none⟩ = some v2 ∧ w'.cell? ⟨w.heap.size + 1, 5, none⟩ = some (.int .i64 e2))
        ((refine ks24 HR1.out HR2.out ?_; first | assumption | exact Below.drew hcc))
        (first
          | (go_at_call 40; refine (float_any P E p2 m2 f2 n2 v2 e2 ys _ (V2.out.below hb3) HO2.out hP hE).mono ?_; rintro _ w4 ⟨g2, rfl, hF2, hb4⟩; have G1 := Lib.hid (hF1.below hb4); have G2 := Lib.hid hF2; clear hF1 hF2; have hb4 := bthen hb3 hb4)
          | (go_at_call 40; refine (float_any P E p1 m1 f1 n1 v1 e1 xs _ (V1.out.below (And.left (by assumption))) HO1.out hP hE).mono ?_; rintro _ w3 ⟨g1, rfl, hF1, hb3⟩; have hb3 := bthenL hb3 (by assumption))
          | (go_at_call 38; refine (cmpFat _ G1.out G2.out HF1.out HF2.out HN1.out HN2.out).mono ?_; rintro _ w5 ⟨rfl, hb5⟩; have hb5 := bthen hb4 hb5)))
    | fail
  all_goals
    go_wp2
    go_ret
    exact ⟨rfl, hwX.out.trans (hb5.mono hXs)⟩
def endV (f : Nat) (neg : Bool) : Int := if f = 2 then (if neg then -1 else 1) else 0
set_option maxRecDepth 100000 in
theorem end_any (p m f : Nat) (e : Int) (neg : Bool) (v : Value) (w : World) (hS : IsS v) :
    Calls Try.prog 19 #[.agg #[.int .u64 p, .int .i64 m, .int .i64 f, .bool neg, v, .int .i64 e]] w fun e' w' => e' = .returned (.int .i64 (endV f neg)) ∧ Below w.heap.size w w' := by
  have hab := (Below.refl w.heap.size w).alloc (Nat.le_refl _) (.cells #[.int .u64 p, .int .i64 m, .int .i64 f, .bool neg, v, .int .i64 e] 27)
  by_cases hf : f = 2
  · subst hf
    have t : (((2 : Nat) : Int) != 2) = false := rfl
    cases neg
    · go_enter Try.func19, Try.ntmps19
      go_wp2
      go_ret
      exact ⟨rfl, hab⟩
    · go_enter Try.func19, Try.ntmps19
      go_wp2
      go_ret
      exact ⟨rfl, hab⟩
  · have t : ((f : Int) != 2) = true := by rw [bne_iff_ne]; omega
    have E : Hid (endV f neg = 0) := Lib.hid (by unfold endV; rw [if_neg hf])
    clear hf
    go_enter Try.func19, Try.ntmps19
    go_wp2
    go_ret
    exact ⟨congrArg (fun z => Ending.returned (.int .i64 z)) E.out.symm, hab⟩
end Go.Proofs.Ytniingblgkghgaa
