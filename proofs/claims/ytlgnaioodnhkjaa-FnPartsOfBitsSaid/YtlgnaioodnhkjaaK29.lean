/-
Texts of this proof, joined: FlX. No condition.
-/
import Derived.Test.YtlgnaioodnhkjaaK28
/-
The reference's Order of two dyadic values. No condition.
-/
namespace Go.Proofs.Ytlgnaioodnhkjaa
open Go.RowKit

theorem dSum (n1 n2 : Bool) (a b : Value) (e1 e2 e : Int) (x y A B : Nat) (w : World) (ha : NatV w a x) (hb : NatV w b y) (hm : min e1 e2 = e) (hs1 : e1 - e = (A : Int)) (hs2 : e2 - e = (B : Int)) (g1 : -2000000000 ≤ e1) (g2 : e1 ≤ 2000000000) (g3 : -2000000000 ≤ e2) (g4 : e2 ≤ 2000000000) (g5 : -2000000000 ≤ e)
    (hx : nl x ≤ 1000000000) (hy : nl y ≤ 1000000000) (hA : A ≤ 4000000000) (hB : B ≤ 4000000000) (hP : nl (x * 2 ^ A) ≤ 1000000000) (hQ : nl (y * 2 ^ B) ≤ 1000000000) :
    Calls Try.prog 53 #[.agg #[.bool n1, a, .int .i64 e1], .agg #[.bool n2, b, .int .i64 e2]] w fun e' w' => ∃ r, e' = .returned r ∧ SumP (x * 2 ^ A) (y * 2 ^ B) n1 n2 e w r w' := by
  cases n1 <;> cases n2
  · exact dSum_ff a b e1 e2 e x y A B w ha hb hm hs1 hs2 g1 g2 g3 g4 g5 hx hy hA hB hP hQ
  · exact dSum_ft a b e1 e2 e x y A B w ha hb hm hs1 hs2 g1 g2 g3 g4 g5 hx hy hA hB hP hQ
  · exact dSum_tf a b e1 e2 e x y A B w ha hb hm hs1 hs2 g1 g2 g3 g4 g5 hx hy hA hB hP hQ
  · exact dSum_tt a b e1 e2 e x y A B w ha hb hm hs1 hs2 g1 g2 g3 g4 g5 hx hy hA hB hP hQ
theorem sI_not (n : Bool) (x : Nat) : sI (!n) x = - sI n x := by cases n <;> simp [sI]
theorem sgD_cmp {ng : Bool} {M : Nat} {i j : Int} (h : sI ng M = i - j) : sgD ng M = cmpI i j := by
  unfold sgD
  by_cases h0 : M = 0
  · subst h0
    have : i = j := by cases ng <;> simp [sI] at h <;> omega
    rw [if_pos rfl, this]; unfold cmpI; rw [if_neg (by omega), if_neg (by omega)]
  · rw [if_neg h0]
    cases ng
    · have h' : (M : Int) = i - j := h
      rw [cmpI_gt (by omega)]; rfl
    · have h' : -(M : Int) = i - j := h
      rw [cmpI_lt (by omega)]; rfl
set_option maxRecDepth 100000 in
set_option maxHeartbeats 1600000 in
theorem dOrder (n1 n2 : Bool) (a b : Value) (e1 e2 e : Int) (x y A B : Nat) (w : World) (ha : NatV w a x) (hb : NatV w b y) (hm : min e1 e2 = e) (hs1 : e1 - e = (A : Int)) (hs2 : e2 - e = (B : Int)) (g1 : -2000000000 ≤ e1) (g2 : e1 ≤ 2000000000) (g3 : -2000000000 ≤ e2) (g4 : e2 ≤ 2000000000) (g5 : -2000000000 ≤ e)
    (hx : nl x ≤ 1000000000) (hy : nl y ≤ 1000000000) (hA : A ≤ 4000000000) (hB : B ≤ 4000000000) (hP : nl (x * 2 ^ A) ≤ 1000000000) (hQ : nl (y * 2 ^ B) ≤ 1000000000) :
    Calls Try.prog 52 #[.agg #[.bool n1, a, .int .i64 e1], .agg #[.bool n2, b, .int .i64 e2]] w fun e' w' => e' = .returned (.int .i64 (cmpI (sI n1 (x * 2 ^ A)) (sI n2 (y * 2 ^ B)))) ∧ Below w.heap.size w w' := by
  have hSa := ha.isS
  have hSb := hb.isS
  have HS : Hid (∀ W : World, NatV W a x → NatV W b y → Calls Try.prog 53 #[.agg #[.bool n1, a, .int .i64 e1], .agg #[.bool (!n2), b, .int .i64 e2]] W fun e' w' => ∃ r, e' = .returned r ∧ SumP (x * 2 ^ A) (y * 2 ^ B) n1 (!n2) e W r w') :=
    Lib.hid fun W h1 h2 => dSum n1 (!n2) a b e1 e2 e x y A B W h1 h2 hm hs1 hs2 g1 g2 g3 g4 g5 hx hy hA hB hP hQ
  clear hm hs1 hs2 g1 g2 g3 g4 g5 hx hy hA hB hP hQ
  have hab := (Below.refl w.heap.size w).alloc (Nat.le_refl _) (.cells #[.bool n1, a, .int .i64 e1] 32)
  have hac := hab.alloc hab.size (.cells #[.bool n2, b, .int .i64 e2] 32)
  obtain ⟨X, hX⟩ : ∃ X, X = (w.alloc (.cells #[.bool n1, a, .int .i64 e1] 32)).alloc (.cells #[.bool n2, b, .int .i64 e2] 32) := ⟨_, rfl⟩
  have hr1 : X.heap[w.heap.size]? = some (.cells #[.bool n1, a, .int .i64 e1] 32 (0, 0)) := by
    rw [hX]; exact keep_row (fbone _) (box_row (Below.refl _ _))
  have hr2 : X.heap[w.heap.size + 1]? = some (.cells #[.bool n2, b, .int .i64 e2] 32 (0, 0)) := by
    rw [hX]
    have := box_row (Below.refl _ ((w.alloc (.cells #[.bool n1, a, .int .i64 e1] 32)).alloc (.cells #[.bool n2, b, .int .i64 e2] 32)))
    simpa using this
  rw [← hX] at hac
  obtain ⟨x0, x1, x2, -, -, -⟩ := row3 hr1
  obtain ⟨y0, y1, y2, -, -, -⟩ := row3 hr2
  have NA := Lib.hid (ha.below hac)
  have NB := Lib.hid (hb.below hac)
  have HW := Lib.hid hac
  have hXs := hac.size
  have hcc := Below.refl X.heap.size X
  obtain ⟨P, hP⟩ : ∃ P, P = x * 2 ^ A := ⟨_, rfl⟩
  obtain ⟨Q, hQ⟩ : ∃ Q, Q = y * 2 ^ B := ⟨_, rfl⟩
  rw [← hP, ← hQ] at HS ⊢
  clear hr1 hr2 hab hac ha hb hP hQ
  go_enter Try.func52, Try.ntmps52
  go_upto_region 1 with fail
  rw [← hX]
  clear hX
  first
    | (go_region_held3 (fun w' => w'.cell? ⟨w.heap.size, 0, none⟩ = some (.bool n1) ∧ w'.cell? ⟨w.heap.size, 1, none⟩ = some a ∧ w'.cell? ⟨w.heap.size, 2, none⟩ = some (.int .i64 e1) ∧ w'.cell? ⟨w.heap.size + 1, 0, none⟩ = some (.bool n2) ∧ w'.cell? ⟨w.heap.size + 1, 1, none⟩ = some b ∧ w'.cell? ⟨w.heap.size + 1, 2, none⟩ = some (.int .i64 e2))
        ((refine ks6 x0 x1 x2 y0 y1 y2 ?_; first | assumption | exact Below.drew hcc))
        (first
          | (go_at_call 92; refine (dOpp n2 b e2 _ hSb).mono ?_; rintro _ w3 ⟨rfl, hb3⟩; have hb3 : Below X.heap.size X w3 := bthen (Below.drew hcc) hb3)
          | (go_at_call 53; refine (HS.out _ (NA.out.below hb3) (NB.out.below hb3)).mono ?_; rintro _ w4 ⟨_, rfl, ng, M, ⟨q, rfl, hq⟩, hM, hb4⟩; have hSq := hq.isS; have hb4 := bthen hb3 hb4; have HM := Lib.hid hM; have HQ4 := Lib.hid hq; clear hM hq)
          | (go_at_call 46; refine (dSign ng q e M _ HQ4.out).mono ?_; rintro _ w5 ⟨rfl, hb5⟩; have hb5 := bthen hb4 hb5)))
    | fail
  all_goals
    go_wp2
    go_ret
    have k := HM.out
    rw [sI_not] at k
    exact ⟨congrArg (fun z => Ending.returned (.int .i64 z)) (sgD_cmp (i := sI n1 P) (j := sI n2 Q) (by omega)), HW.out.trans (hb5.mono hXs)⟩
end Go.Proofs.Ytlgnaioodnhkjaa
