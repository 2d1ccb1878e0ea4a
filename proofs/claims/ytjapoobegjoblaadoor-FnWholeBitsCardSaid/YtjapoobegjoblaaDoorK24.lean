/-
Texts of this proof, joined: FlX FlY AsE StD StF LwB MoA SmA ImA IfC LwE LwF IfD RoB. No condition.
-/
import Derived.Test.YtjapoobegjoblaaDoorK02
import Derived.Test.YtjapoobegjoblaaDoorK14
import Derived.Test.YtjapoobegjoblaaDoorK17
import Derived.Test.YtjapoobegjoblaaDoorK18
import Derived.Test.YtjapoobegjoblaaDoorK21
import Derived.Test.YtjapoobegjoblaaDoorK22
import Derived.Test.YtjapoobegjoblaaDoorK23
/-
The reference's Order of two dyadic values. No condition.
-/
namespace Go.Proofs.YtjapoobegjoblaaDoor
open Go.RowKit

theorem dSum (n1 n2 : Bool) (a b : Value) (e1 e2 e : Int) (x y A B : Nat) (w : World) (ha : NatV w a x) (hb : NatV w b y) (hm : min e1 e2 = e) (hs1 : e1 - e = (A : Int)) (hs2 : e2 - e = (B : Int)) (g1 : -2000000000 ≤ e1) (g2 : e1 ≤ 2000000000) (g3 : -2000000000 ≤ e2) (g4 : e2 ≤ 2000000000) (g5 : -2000000000 ≤ e)
    (hx : nl x ≤ 1000000000) (hy : nl y ≤ 1000000000) (hA : A ≤ 4000000000) (hB : B ≤ 4000000000) (hP : nl (x * 2 ^ A) ≤ 1000000000) (hQ : nl (y * 2 ^ B) ≤ 1000000000) :
    Calls Tryd.prog 19 #[.agg #[.bool n1, a, .int .i64 e1], .agg #[.bool n2, b, .int .i64 e2]] w fun e' w' => ∃ r, e' = .returned r ∧ SumP (x * 2 ^ A) (y * 2 ^ B) n1 n2 e w r w' := by
  cases n1 <;> cases n2
  · exact dSum_ff a b e1 e2 e x y A B w ha hb hm hs1 hs2 g1 g2 g3 g4 g5 hx hy hA hB hP hQ
  · exact dSum_ft a b e1 e2 e x y A B w ha hb hm hs1 hs2 g1 g2 g3 g4 g5 hx hy hA hB hP hQ
  · exact dSum_tf a b e1 e2 e x y A B w ha hb hm hs1 hs2 g1 g2 g3 g4 g5 hx hy hA hB hP hQ
  · exact dSum_tt a b e1 e2 e x y A B w ha hb hm hs1 hs2 g1 g2 g3 g4 g5 hx hy hA hB hP hQ
theorem sI_not (n : Bool) (x : Nat) : sI (!n) x = - sI n x := by cases n <;> simp [sI]
theorem sgD_cmp {ng : Bool} {M : Nat} {i j : Int} (h : sI ng M = i - j) : sgD ng M = cmpI i j := by
  unfold sgD
  by_cases h0 : M = 0
  · subst h0
    have : i = j := by cases ng <;> simp [sI] at h <;> omega
    rw [if_pos rfl, this]; unfold cmpI; rw [if_neg (by omega), if_neg (by omega)]
  · rw [if_neg h0]
    cases ng
    · have h' : (M : Int) = i - j := h
      rw [cmpI_gt (by omega)]; rfl
    · have h' : -(M : Int) = i - j := h
      rw [cmpI_lt (by omega)]; rfl
set_option maxRecDepth 100000 in
set_option maxHeartbeats 1600000 in
theorem dOrder (n1 n2 : Bool) (a b : Value) (e1 e2 e : Int) (x y A B : Nat) (w : World) (ha : NatV w a x) (hb : NatV w b y) (hm : min e1 e2 = e) (hs1 : e1 - e = (A : Int)) (hs2 : e2 - e = (B : Int)) (g1 : -2000000000 ≤ e1) (g2 : e1 ≤ 2000000000) (g3 : -2000000000 ≤ e2) (g4 : e2 ≤ 2000000000) (g5 : -2000000000 ≤ e)
    (hx : nl x ≤ 1000000000) (hy : nl y ≤ 1000000000) (hA : A ≤ 4000000000) (hB : B ≤ 4000000000) (hP : nl (x * 2 ^ A) ≤ 1000000000) (hQ : nl (y * 2 ^ B) ≤ 1000000000) :
    Calls Tryd.prog 23 #[.agg #[.bool n1, a, .int .i64 e1], .agg #[.bool n2, b, .int .i64 e2]] w fun e' w' => e' = .returned (.int .i64 (cmpI (sI n1 (x * 2 ^ A)) (sI n2 (y * 2 ^ B)))) ∧ Below w.heap.size w w' := by
  have hSa := ha.isS
  have hSb := hb.isS
  have HS : Hid (∀ W : World, NatV W a x → NatV W b y → Calls Tryd.prog 19 #[.agg #[.bool n1, a, .int .i64 e1], .agg #[.bool (!n2), b, .int .i64 e2]] W fun e' w' => ∃ r, e' = .returned r ∧ SumP (x * 2 ^ A) (y * 2 ^ B) n1 (!n2) e W r w') :=
    Lib.hid fun W h1 h2 => dSum n1 (!n2) a b e1 e2 e x y A B W h1 h2 hm hs1 hs2 g1 g2 g3 g4 g5 hx hy hA hB hP hQ
  clear hm hs1 hs2 g1 g2 g3 g4 g5 hx hy hA hB hP hQ
  have hab := (Below.refl w.heap.size w).alloc (Nat.le_refl _) (.cells #[.bool n1, a, .int .i64 e1] 33)
  have hac := hab.alloc hab.size (.cells #[.bool n2, b, .int .i64 e2] 33)
  obtain ⟨X, hX⟩ : ∃ X, X = (w.alloc (.cells #[.bool n1, a, .int .i64 e1] 33)).alloc (.cells #[.bool n2, b, .int .i64 e2] 33) := ⟨_, rfl⟩
  have hr1 : X.heap[w.heap.size]? = some (.cells #[.bool n1, a, .int .i64 e1] 33 (0, 0)) := by
    rw [hX]; exact keep_row (fbone _) (box_row (Below.refl _ _))
  have hr2 : X.heap[w.heap.size + 1]? = some (.cells #[.bool n2, b, .int .i64 e2] 33 (0, 0)) := by
    rw [hX]
    have := box_row (Below.refl _ ((w.alloc (.cells #[.bool n1, a, .int .i64 e1] 33)).alloc (.cells #[.bool n2, b, .int .i64 e2] 33)))
    simpa using this
  rw [← hX] at hac
  obtain ⟨x0, x1, x2, -, -, -⟩ := row3 hr1
  obtain ⟨y0, y1, y2, -, -, -⟩ := row3 hr2
  have NA := Lib.hid (ha.below hac)
  have NB := Lib.hid (hb.below hac)
  have HW := Lib.hid hac
  have hXs := hac.size
  have hcc := Below.refl X.heap.size X
  obtain ⟨P, hP⟩ : ∃ P, P = x * 2 ^ A := ⟨_, rfl⟩
  obtain ⟨Q, hQ⟩ : ∃ Q, Q = y * 2 ^ B := ⟨_, rfl⟩
  rw [← hP, ← hQ] at HS ⊢
  clear hr1 hr2 hab hac ha hb hP hQ
  go_enter Tryd.func23, Tryd.ntmps23
  go_upto_region 1 with fail
  rw [← hX]
  clear hX
  first
    | (go_region_held3 (fun w' => w'.cell? ⟨w.heap.size, 0, none⟩ = some (.bool n1) ∧ w'.cell? ⟨w.heap.size, 1, none⟩ = some a ∧ w'.cell? ⟨w.heap.size, 2, none⟩ = some (.int .i64 e1) ∧ w'.cell? ⟨w.heap.size + 1, 0, none⟩ = some (.bool n2) ∧ w'.cell? ⟨w.heap.size + 1, 1, none⟩ = some b ∧ w'.cell? ⟨w.heap.size + 1, 2, none⟩ = some (.int .i64 e2))
        ((refine ks6 x0 x1 x2 y0 y1 y2 ?_; first | assumption | exact Below.drew hcc))
        (first
          | (go_at_call 41; refine (dOpp n2 b e2 _ hSb).mono ?_; rintro _ w3 ⟨rfl, hb3⟩; have hb3 : Below X.heap.size X w3 := bthen (Below.drew hcc) hb3)
          | (go_at_call 19; refine (HS.out _ (NA.out.below hb3) (NB.out.below hb3)).mono ?_; rintro _ w4 ⟨_, rfl, ng, M, ⟨q, rfl, hq⟩, hM, hb4⟩; have hSq := hq.isS; have hb4 := bthen hb3 hb4; have HM := Lib.hid hM; have HQ4 := Lib.hid hq; clear hM hq)
          | (go_at_call 22; refine (dSign ng q e M _ HQ4.out).mono ?_; rintro _ w5 ⟨rfl, hb5⟩; have hb5 := bthen hb4 hb5)))
    | fail
  all_goals
    go_wp2
    go_ret
    have k := HM.out
    rw [sI_not] at k
    exact ⟨congrArg (fun z => Ending.returned (.int .i64 z)) (sgD_cmp (i := sI n1 P) (j := sI n2 Q) (by omega)), HW.out.trans (hb5.mono hXs)⟩
end Go.Proofs.YtjapoobegjoblaaDoor

/-
The statement on the order of two floats. No condition.
-/
namespace Go.Proofs.YtjapoobegjoblaaDoor
open Go.RowKit

/-- Order of the values of two reals. -/
theorem order_real (P E _f1 _f2 : Nat) (n1 n2 : Bool) (a b : Value) (e1 e2 : Int) (x y : Nat) (w : World) (ha : NatV w a x) (hb : NatV w b y)
    (hx : bl x ≤ P) (g1 : -(E : Int) ≤ e1) (g2 : e1 ≤ E) (hy : bl y ≤ P) (g3 : -(E : Int) ≤ e2) (g4 : e2 ≤ E) (hP : P ≤ 64000) (hE : E ≤ 100000000) :
    Calls Tryd.prog 23 #[.agg #[.bool n1, a, .int .i64 e1], .agg #[.bool n2, b, .int .i64 e2]] w fun e' w' =>
      e' = .returned (.int .i64 (cmpI (sI n1 (x * 2 ^ (e1 - min e1 e2).toNat)) (sI n2 (y * 2 ^ (e2 - min e1 e2).toNat)))) ∧ Below w.heap.size w w' := by
  have k1 := bl_two x (e1 - min e1 e2).toNat
  have k2 := bl_two y (e2 - min e1 e2).toNat
  exact dOrder n1 n2 a b e1 e2 (min e1 e2) x y (e1 - min e1 e2).toNat (e2 - min e1 e2).toNat w ha hb rfl (by omega) (by omega) (by omega) (by omega) (by omega) (by omega) (by omega)
    (nl_of_bl (by omega)) (nl_of_bl (by omega)) (by omega) (by omega) (nl_of_bl (by omega)) (nl_of_bl (by omega))
/-- What is asked of Cmp's answer. -/
def wantC (f1 : Nat) (n1 : Bool) (M1 : Nat) (e1 : Int) (f2 : Nat) (n2 : Bool) (M2 : Nat) (e2 : Int) : Int :=
  cmpI (sI (dyN f1 n1) (dyM f1 M1 * 2 ^ (dyE f1 e1 - min (dyE f1 e1) (dyE f2 e2)).toNat)) (sI (dyN f2 n2) (dyM f2 M2 * 2 ^ (dyE f2 e2 - min (dyE f1 e1) (dyE f2 e2)).toNat))
theorem wantC_eq {f1 f2 M1 M2 : Nat} {n1 n2 : Bool} {e1 e2 : Int} (hf1 : f1 ≤ 1) (hf2 : f2 ≤ 1) (h1 : f1 = 1 → 0 < M1) (h2 : f2 = 1 → 0 < M2) :
    cmpRV f1 n1 M1 e1 f2 n2 M2 e2 = wantC f1 n1 M1 e1 f2 n2 M2 e2 := by
  rw [cmpRV_law (a := (dyE f1 e1 - min (dyE f1 e1) (dyE f2 e2)).toNat) (b := (dyE f2 e2 - min (dyE f1 e1) (dyE f2 e2)).toNat) (e := min (dyE f1 e1) (dyE f2 e2)) hf1 hf2
    (fun h => ⟨h1 h, by subst h; simp only [dyE, if_true]; split <;> omega⟩) (fun h => ⟨h2 h, by subst h; simp only [dyE, if_true]; split <;> omega⟩)]
  unfold wantC
  rcases (by omega : f1 = 0 ∨ f1 = 1) with rfl | rfl <;> rcases (by omega : f2 = 0 ∨ f2 = 1) with rfl | rfl <;> simp [dyN, dyM, dyE, sI]
theorem cmpRV_lt {f1 f2 M1 M2 : Nat} {n1 n2 : Bool} {e1 e2 : Int} (hf1 : f1 ≤ 2) (hf2 : f2 ≤ 2) (h : endV f1 n1 < endV f2 n2) : cmpRV f1 n1 M1 e1 f2 n2 M2 e2 = -1 := by
  unfold cmpRV cmpFV
  rw [if_pos]
  unfold endV at h; unfold ordV
  split at h <;> split at h <;> cases n1 <;> cases n2 <;> simp_all <;> omega
theorem cmpRV_gt {f1 f2 M1 M2 : Nat} {n1 n2 : Bool} {e1 e2 : Int} (hf1 : f1 ≤ 2) (hf2 : f2 ≤ 2) (h : endV f2 n2 < endV f1 n1) : cmpRV f1 n1 M1 e1 f2 n2 M2 e2 = 1 := by
  unfold cmpRV cmpFV
  have : ordV f2 n2 < ordV f1 n1 := by
    unfold endV at h; unfold ordV
    split at h <;> split at h <;> cases n1 <;> cases n2 <;> simp_all <;> omega
  rw [if_neg (by omega), if_pos this]
theorem cmpRV_eq {f1 f2 M1 M2 : Nat} {n1 n2 : Bool} {e1 e2 : Int} (hf1 : f1 ≤ 2) (hf2 : f2 ≤ 2) (h : endV f1 n1 = endV f2 n2) (h0 : endV f1 n1 ≠ 0) : cmpRV f1 n1 M1 e1 f2 n2 M2 e2 = 0 := by
  have h2 : f1 = 2 := by
    refine Classical.byContradiction fun hc => h0 ?_
    unfold endV; rw [if_neg hc]
  have h3 : f2 = 2 := by
    refine Classical.byContradiction fun hc => h0 ?_
    rw [h]; unfold endV; rw [if_neg hc]
  subst h2; subst h3
  have : n1 = n2 := by cases n1 <;> cases n2 <;> simp_all [endV]
  subst this
  unfold cmpRV cmpFV
  cases n1 <;> simp [ordV]
theorem end0 {f : Nat} {n : Bool} (hf : f ≤ 2) (h : endV f n = 0) : f ≤ 1 := by
  refine Classical.byContradiction fun hc => ?_
  have : f = 2 := by omega
  subst this
  cases n <;> simp [endV] at h
end Go.Proofs.YtjapoobegjoblaaDoor

/-
Floats: what uadd and usub need. No condition.
-/
namespace Go.Proofs.YtjapoobegjoblaaDoor
open Go.RowKit

theorem wrap_i64_id {a : Int} (h1 : -9223372036854775808 ≤ a) (h2 : a ≤ 9223372036854775807) : IntKind.i64.wrap a = a := by rw [IntKind.wrap_i64]; omega
theorem bl_diM (M : Nat) (E : Int) (N : Nat) (F : Int) : bl (diM M E N F) ≤ bl M + (E - min E F).toNat := Nat.le_trans (bl_mono (Nat.sub_le _ _)) (bl_lo _ _ _)
theorem bl_suM (M : Nat) (E : Int) (N : Nat) (F : Int) : bl (suM M E N F) ≤ max (bl M + (E - min E F).toNat) (bl N + (F - min E F).toNat) + 1 := by
  refine bl_le ?_
  unfold suM
  have h1 := lt_bl (lo M E (min E F))
  have h2 := lt_bl (lo N F (min E F))
  have h3 := bl_lo M E (min E F)
  have h4 := bl_lo N F (min E F)
  have h5 := Nat.pow_le_pow_right (show 0 < 2 by decide) (show bl (lo M E (min E F)) ≤ max (bl M + (E - min E F).toNat) (bl N + (F - min E F).toNat) by omega)
  have h6 := Nat.pow_le_pow_right (show 0 < 2 by decide) (show bl (lo N F (min E F)) ≤ max (bl M + (E - min E F).toNat) (bl N + (F - min E F).toNat) by omega)
  rw [Nat.pow_succ]; omega
theorem nw_of_bl {n k : Nat} (h : bl n ≤ 64 * k) : nw n ≤ k := by
  rcases Nat.eq_zero_or_pos n with h0 | h0
  · rw [h0, nw_zero]; exact Nat.zero_le _
  · rw [nw_bl h0]; omega
end Go.Proofs.YtjapoobegjoblaaDoor

/-
The thin package's Set, Neg, Abs. No condition.
-/
namespace Go.Proofs.YtjapoobegjoblaaDoor
open Go.RowKit

theorem bthenX {B : Nat} {a b c : World} (h : Below B a b) (k : Below B b c) : Below B a c := h.trans k
theorem stA_bd (f p m : Nat) (neg : Bool) (M : Nat) : -1 ≤ stA f p m neg M ∧ stA f p m neg M ≤ 1 := by
  unfold stA rA; repeat' split
  all_goals omega
theorem rQ_range {p m M : Nat} {neg : Bool} {e : Int} (h : bl M ≤ 1000000 ∧ -100000000 ≤ e ∧ e ≤ 100000000) : -900000000 ≤ e + (rk p M : Nat) ∧ e + (rk p M : Nat) + bl (rQ p m neg 0 M) ≤ 900000000 := by
  have h1 := rk_le p M
  have h2 := bl_rQ p m neg 0 M
  omega
end Go.Proofs.YtjapoobegjoblaaDoor

/-
The thin package's SetPrec, SetMantExp, MantExp, IsInt. No condition.
-/
namespace Go.Proofs.YtjapoobegjoblaaDoor
open Go.RowKit

end Go.Proofs.YtjapoobegjoblaaDoor

/-
What is told of a Real against its reference. No condition.
-/
namespace Go.Proofs.YtjapoobegjoblaaDoor
open Go.RowKit

theorem rQ_zero (p m : Nat) (neg : Bool) : rk p 0 = 0 ∧ rQ p m neg 0 0 = 0 ∧ rA p m neg 0 0 = 0 := rQ_fits neg (by rw [bl_zero]; exact Nat.zero_le _)
theorem told_dy {w : World} {z : Value} {p m f M : Nat} {n : Bool} {e : Int} (hf : f = 0 ∨ f = 1) (hz : RealV w z p m f n (rQ p m n 0 M) (e + (rk p M : Nat))) (hM : f = 1 → 0 < M) (hp : 0 < p) :
    Told w z p m (dyN f n) (rQ p m (dyN f n) 0 (dyM f M)) (dyE f e + (rk p (dyM f M) : Nat)) := by
  rcases hf with rfl | rfl
  · obtain ⟨h1, h2, -⟩ := rQ_zero p m (dyN 0 n)
    rw [show dyM 0 M = 0 from rfl, h2]
    exact hz.told0
  · rw [show dyN 1 n = n from rfl, show dyM 1 M = M from rfl, show dyE 1 e = e from rfl]
    exact hz.told (rQ_pos n 0 hp (hM rfl)) (deq.refl _ _)
theorem stA_dy {p m f M : Nat} {n : Bool} (hf : f = 0 ∨ f = 1) : stA f p m n M = rA p m (dyN f n) 0 (dyM f M) := by
  rcases hf with rfl | rfl
  · exact (rQ_zero p m (dyN 0 n)).2.2.symm
  · rfl
theorem RealV.form {w : World} {z : Value} {p m f M : Nat} {neg : Bool} {X : Int} (h : RealV w z p m f neg M X) : ∃ (v : Value) (E : Int), z = .agg #[.int .u64 p, .int .i64 m, .int .i64 f, .bool neg, v, .int .i64 E] ∧ IsS v := by
  obtain ⟨v, E, zs, B, h1, h2, -⟩ := h
  exact ⟨v, E, h1, h2.isS⟩
theorem RealOk.form' {P E p m f : Nat} {ws : List Nat} {e : Int} (h : RealOk P E p m f ws e) : f ≤ 2 := by
  obtain ⟨-, -, -, h | h | h⟩ := h <;> omega
theorem pOf_self (k p : Nat) : pOf k (max p p) = pOf k p := by rw [Nat.max_self]
end Go.Proofs.YtjapoobegjoblaaDoor

/-
Rounding is monotone. Plain law. No condition.
-/
namespace Go.Proofs.YtjapoobegjoblaaDoor
open Go.RowKit

theorem lef_mono {R R' D : Nat} (h : R ≤ R') : lef R D 0 ≤ lef R' D 0 := by
  unfold lef; repeat' split
  all_goals omega
theorem awy_mono {neg odd : Bool} {l l' m : Nat} (h : l ≤ l') (hl : l' ≤ 3) (hu : awy neg odd l m = true) : awy neg odd l' m = true := by
  have c : l = 0 ∨ l = 1 ∨ l = 2 ∨ l = 3 := by omega
  have c' : l' = 0 ∨ l' = 1 ∨ l' = 2 ∨ l' = 3 := by omega
  unfold awy at hu ⊢
  rcases c with rfl | rfl | rfl | rfl <;> rcases c' with rfl | rfl | rfl | rfl <;> first | omega | (cases odd <;> cases neg <;> revert hu <;> (repeat' split) <;> simp)
theorem rQ_mono {p m M N : Nat} (neg : Bool) (hp : 0 < p) (h : M ≤ N) : rQ p m neg 0 M * 2 ^ rk p M ≤ rQ p m neg 0 N * 2 ^ rk p N := by
  have hbl := bl_mono h
  rcases Nat.lt_or_ge (rk p M) (rk p N) with hk | hk
  · have hN : p < bl N := by unfold rk at hk; omega
    obtain ⟨b1, -, -⟩ := rQ_bound (m := m) neg 0 hp hN
    have h1 : rQ p m neg 0 M * 2 ^ rk p M ≤ 2 ^ bl M := by
      rcases Nat.lt_or_ge p (bl M) with hM | hM
      · have := (rQ_bound (m := m) neg 0 hp hM).2.2
        have e : 2 ^ bl M = 2 ^ p * 2 ^ rk p M := by rw [← Nat.pow_add]; congr 1; unfold rk; omega
        rw [e]; exact Nat.mul_le_mul_right _ this
      · obtain ⟨k0, q0, -⟩ := rQ_fits (m := m) neg hM
        rw [k0, q0, Nat.pow_zero, Nat.mul_one]; exact Nat.le_of_lt (lt_bl M)
    have h2 : 2 ^ bl M ≤ 2 ^ (p - 1) * 2 ^ rk p N := by rw [← Nat.pow_add]; exact Nat.pow_le_pow_right (by decide) (by unfold rk at *; omega)
    have h3 : N / 2 ^ rk p N ≤ rQ p m neg 0 N := Nat.le_add_right _ _
    exact Nat.le_trans h1 (Nat.le_trans h2 (Nat.mul_le_mul_right _ (Nat.le_trans b1 h3)))
  · have hk' : rk p M = rk p N := by unfold rk at *; omega
    unfold rQ rU rL
    rw [hk']
    obtain ⟨D, hD⟩ : ∃ D, D = 2 ^ rk p N := ⟨_, rfl⟩
    rw [← hD]
    have hD0 : 0 < D := by rw [hD]; exact Nat.two_pow_pos _
    refine Nat.mul_le_mul_right _ ?_
    have hd : M / D ≤ N / D := Nat.div_le_div_right h
    rcases Nat.lt_or_eq_of_le hd with hlt | heq
    · split <;> split <;> omega
    · have hr : M % D ≤ N % D := by
        have a1 := Nat.div_add_mod M D
        have a2 := Nat.div_add_mod N D
        rw [heq] at a1
        omega
      rw [heq]
      cases hu : awy neg (decide (N / D % 2 = 1)) (lef (M % D) D 0) m with
      | false => simp
      | true => rw [awy_mono (lef_mono hr) (lef_le _ _ _) hu]; exact Nat.le_refl _
def vN (V : Int) : Bool := decide (V < 0)
/-- The rounded value, at the exact value's exponent. -/
def rV (p m : Nat) (V : Int) : Int := sI (vN V) (rQ p m (vN V) 0 V.natAbs * 2 ^ rk p V.natAbs)
theorem rV_mono {p m : Nat} {V W : Int} (hp : 0 < p) (h : V ≤ W) : rV p m V ≤ rV p m W := by
  unfold rV vN
  by_cases h1 : V < 0 <;> by_cases h2 : W < 0
  · rw [decide_eq_true h1, decide_eq_true h2]
    have := rQ_mono (p := p) (m := m) true hp (show W.natAbs ≤ V.natAbs by omega)
    simp only [sI, if_true]; omega
  · rw [decide_eq_true h1, decide_eq_false h2]
    simp only [sI, if_true, Bool.false_eq_true, if_false]; omega
  · omega
  · rw [decide_eq_false h1, decide_eq_false h2]
    have := rQ_mono (p := p) (m := m) false hp (show V.natAbs ≤ W.natAbs by omega)
    simp only [sI, Bool.false_eq_true, if_false]; omega
end Go.Proofs.YtjapoobegjoblaaDoor

/-
The reference's sum of two dyadic values, by its value; what is plain in it. No condition.
-/
namespace Go.Proofs.YtjapoobegjoblaaDoor
open Go.RowKit

/-- The sum of two dyadic values, at the lower exponent. -/
def smV (n1 : Bool) (M : Nat) (E : Int) (n2 : Bool) (N : Nat) (F : Int) : Int := sI n1 (lo M E (min E F)) + sI n2 (lo N F (min E F))
theorem natAbs_sI (n : Bool) (S : Nat) : (sI n S).natAbs = S := by cases n <;> simp [sI]
theorem vN_sI {n : Bool} {S : Nat} (h : 0 < S) : vN (sI n S) = n := by
  cases n
  · simp [sI, vN]
  · simp [sI, vN]; omega
theorem sI_ne {n : Bool} {S : Nat} (h : 0 < S) : sI n S ≠ 0 := by
  cases n
  · simp [sI]; omega
  · simp [sI]; omega
theorem lo_zero (E e : Int) : lo 0 E e = 0 := Nat.zero_mul _
theorem sI_zero (n : Bool) : sI n 0 = 0 := by cases n <;> rfl
theorem rA_bd (p m : Nat) (neg : Bool) (s M : Nat) : -1 ≤ rA p m neg s M ∧ rA p m neg s M ≤ 1 := by
  unfold rA; repeat' split
  all_goals omega
theorem smV_bl (n1 : Bool) (M : Nat) (E : Int) (n2 : Bool) (N : Nat) (F : Int) : bl (smV n1 M E n2 N F).natAbs ≤ max (bl M + (E - min E F).toNat) (bl N + (F - min E F).toNat) + 1 := by
  refine Nat.le_trans (bl_mono ?_) (bl_suM M E N F)
  unfold smV suM; cases n1 <;> cases n2 <;> simp [sI] <;> omega
theorem dy_bd {P E p m f : Nat} {ws : List Nat} {e : Int} (h : RealOk P E p m f ws e) : bl (dyM f (wv ws)) ≤ P ∧ -(E : Int) ≤ dyE f e ∧ dyE f e ≤ E := by
  by_cases hf : f = 1
  · subst hf
    obtain ⟨-, h2, -, h | h | ⟨-, h3, h4, h5, h6, h7⟩⟩ := h
    · omega
    · omega
    · exact ⟨Nat.le_trans h4 h2, h6, h7⟩
  · unfold dyM dyE; rw [if_neg hf, if_neg hf, bl_zero]; omega
/-- The reference's sum of two dyadic values. -/
theorem dSum_sm (n1 n2 : Bool) (a b : Value) (e1 e2 : Int) (x y : Nat) (w : World) (ha : NatV w a x) (hb : NatV w b y) (hx : bl x ≤ 1000000) (hy : bl y ≤ 1000000) (g1 : -1000000 ≤ e1 ∧ e1 ≤ 1000000) (g2 : -1000000 ≤ e2 ∧ e2 ≤ 1000000) :
    Calls Tryd.prog 19 #[.agg #[.bool n1, a, .int .i64 e1], .agg #[.bool n2, b, .int .i64 e2]] w fun e' w' => ∃ ng c M, e' = .returned (.agg #[.bool ng, c, .int .i64 (min e1 e2)]) ∧ NatV w' c M ∧ sI ng M = smV n1 x e1 n2 y e2 ∧ Below w.heap.size w w' := by
  have k1 := bl_two x (e1 - min e1 e2).toNat
  have k2 := bl_two y (e2 - min e1 e2).toNat
  refine (dSum n1 n2 a b e1 e2 (min e1 e2) x y (e1 - min e1 e2).toNat (e2 - min e1 e2).toNat w ha hb rfl (by omega) (by omega) (by omega) (by omega) (by omega) (by omega) (by omega)
    (nl_of_bl (by omega)) (nl_of_bl (by omega)) (by omega) (by omega) (nl_of_bl (by omega)) (nl_of_bl (by omega))).mono ?_
  rintro _ w' ⟨r, rfl, ng, M, ⟨c, rfl, hc⟩, hs, hb⟩
  exact ⟨ng, c, M, rfl, hc, hs, hb⟩
theorem sum_bl {ng : Bool} {M : Nat} {V : Int} (h : sI ng M = V) : bl M = bl V.natAbs := by rw [← h, natAbs_sI]
end Go.Proofs.YtjapoobegjoblaaDoor

/-
The thin package's SetInt64, SetUint64; spec.Whole. No condition.
-/
namespace Go.Proofs.YtjapoobegjoblaaDoor
open Go.RowKit

theorem rQ0 (p m : Nat) (neg : Bool) : rk p 0 = 0 ∧ rQ p m neg 0 0 = 0 ∧ rA p m neg 0 0 = 0 := rQ_fits neg (by rw [bl_zero]; exact Nat.zero_le _)
theorem sbA_bd (p m : Nat) (neg : Bool) (M : Nat) : -1 ≤ sbA p m neg M ∧ sbA p m neg M ≤ 1 := by
  unfold sbA rA; repeat' split
  all_goals omega
theorem sbA_eq (p m : Nat) (neg : Bool) (M : Nat) : sbA p m neg M = rA p m neg 0 M := by
  unfold sbA; split
  · rename_i h; subst h; exact (rQ0 _ _ _).2.2.symm
  · rfl
theorem fO_le (M : Nat) : fO M ≤ 2 := by unfold fO; split <;> omega
theorem told_fO {w : World} {z : Value} {p m M : Nat} {n : Bool} {e : Int} (hz : RealV w z p m (fO M) n (rQ p m n 0 M) (e + (rk p M : Nat))) (hp : 0 < p) : Told w z p m n (rQ p m n 0 M) (e + (rk p M : Nat)) := by
  by_cases h : M = 0
  · subst h
    rw [(rQ0 p m n).2.1]
    exact hz.told0
  · rw [show fO M = 1 by unfold fO; rw [if_neg h]] at hz
    exact hz.told (rQ_pos n 0 hp (Nat.pos_of_ne_zero h)) (deq.refl _ _)
theorem RealV.formW {w : World} {z : Value} {p m f M : Nat} {neg : Bool} {X : Int} (h : RealV w z p m f neg M X) : ∃ (v : Value) (E : Int), z = .agg #[.int .u64 p, .int .i64 m, .int .i64 f, .bool neg, v, .int .i64 E] ∧ IsS v := by
  obtain ⟨v, E, zs, B, h1, h2, -⟩ := h
  exact ⟨v, E, h1, h2.isS⟩
theorem rQ_rng (p m M : Nat) (neg : Bool) (h : bl M ≤ 1000000) : -900000000 ≤ 0 + ((rk p M : Nat) : Int) ∧ 0 + ((rk p M : Nat) : Int) + bl (rQ p m neg 0 M) ≤ 900000000 := by
  have h1 := rk_le p M
  have h2 := bl_rQ p m neg 0 M
  omega
theorem rw_one {w : World} {n : Nat} (hn : n < 18446744073709551616) : RW (w.alloc (.cells #[.int .u64 (n : Int)] 22)) (.slice (some ⟨w.heap.size, 0, none⟩) 1 1) [n] := by
  have h := row_chain11 (w := w) (a := #[.int .u64 (n : Int)]) (A := 22)
  have hc := (row_at (i := 0) h rfl).1
  refine ⟨⟨⟨fun _ => rfl, Nat.le_refl _⟩, rfl, fun i hi => ?_⟩, fun d hd => ?_⟩
  · rw [ints_length] at hi
    obtain rfl : i = 0 := by simp at hi; omega
    exact hc
  · rw [List.mem_singleton.1 hd]; exact hn
set_option maxRecDepth 100000 in
set_option maxHeartbeats 1600000 in
theorem whole_any (x : Int) (w : World) (hx1 : -9223372036854775808 ≤ x) (hx2 : x ≤ 9223372036854775807) :
    Calls Tryd.prog 21 #[.int .i64 x] w fun e' w' => ∃ r, e' = .returned r ∧ DyV w' r (decide (x < 0)) x.natAbs 0 ∧ Below w.heap.size w w' := by
  have hab := (Below.refl w.heap.size w).alloc (Nat.le_refl _) (.cells #[.bool false, .slice none 0 0, .int .i64 0] 33)
  obtain ⟨X, hX⟩ : ∃ X, X = w.alloc (.cells #[.bool false, .slice none 0 0, .int .i64 0] 33) := ⟨_, rfl⟩
  have hr2 : X.heap[w.heap.size]? = some (.cells #[.bool false, .slice none 0 0, .int .i64 0] 33 (0, 0)) := by
    rw [hX]; exact row_chain11
  rw [← hX] at hab
  have HR2 := Lib.hid hr2
  have HB := Lib.hid hab
  have hXs := hab.size
  obtain ⟨n, hn⟩ : ∃ n, n = x.natAbs := ⟨_, rfl⟩
  rw [← hn]
  have hnb : n < 18446744073709551616 := by omega
  have HO := Lib.hid (show Calls Tryd.prog 26 #[.slice (some ⟨X.heap.size, 0, none⟩) 1 1] (X.alloc (.cells #[.int .u64 (n : Int)] 22)) fun e' w' => ∃ r, e' = .returned r ∧ NatV w' r n ∧ Below X.heap.size X w' from by
    refine (spOf (.slice (some ⟨X.heap.size, 0, none⟩) 1 1) [n] _ (rw_one hnb) (by simp)).mono ?_
    rintro _ w' ⟨r, rfl, h1, h2⟩
    rw [wv_one] at h1
    exact ⟨r, rfl, h1, bthen (fbone _) h2⟩)
  clear hr2 hab
  go_enter Tryd.func21, Tryd.ntmps21
  go_upto_region 1 with fail
  rw [← hX]
  clear hX
  rcases Int.lt_or_le x 0 with hs | hs
  · have t : decide (x < 0) = true := decide_eq_true hs
    have hw : IntKind.u64.wrap (-IntKind.u64.wrap x) = (n : Int) := by rw [IntKind.wrap_u64, IntKind.wrap_u64]; omega
    clear hs hn
    go_wp2_with fail
    try rw [hw]
    refine HO.out.mono ?_
    rintro _ w3 ⟨d, rfl, hd, hb3⟩
    have hSd := hd.isS
    have hvr := keep_row hb3 HR2.out
    obtain ⟨hv0, hv1, hv2, hf0, hf1, hf2⟩ := row3 hvr
    go_wp2_with fail
    obtain ⟨hx0, hx1, hx2, -, -, -⟩ := row3 (row3_set (x := .bool true) (y := d) (z := .int .i64 0) hvr)
    have hn := natv_dyad (x := .bool true) (y := d) (z := .int .i64 0) IsS.nil hd hvr
    have hbY := bset (i := 2) (u := .int .i64 0) (bset (i := 1) (u := d) (bset (i := 0) (u := .bool true) (HB.out.trans (hb3.mono hXs)) (Nat.le_refl _)) (Nat.le_refl _)) (Nat.le_refl _)
    refine bodyPost_ret (v := .agg #[.bool true, d, .int .i64 0]) ?_ rfl ⟨_, rfl, ⟨_, (by rw [t]), hn⟩, hbY⟩
    simp [results, Tryd.results21, go_sem, hx0, hx1, hx2]
  · have t : decide (x < 0) = false := decide_eq_false (by omega)
    have hw : x = (n : Int) := by omega
    clear hs hn
    go_wp2_with fail
    try rw [hw]
    refine HO.out.mono ?_
    rintro _ w3 ⟨d, rfl, hd, hb3⟩
    have hSd := hd.isS
    have hvr := keep_row hb3 HR2.out
    obtain ⟨hv0, hv1, hv2, hf0, hf1, hf2⟩ := row3 hvr
    go_wp2_with fail
    obtain ⟨hx0, hx1, hx2, -, -, -⟩ := row3 (row3_set (x := .bool false) (y := d) (z := .int .i64 0) hvr)
    have hn := natv_dyad (x := .bool false) (y := d) (z := .int .i64 0) IsS.nil hd hvr
    have hbY := bset (i := 2) (u := .int .i64 0) (bset (i := 1) (u := d) (bset (i := 0) (u := .bool false) (HB.out.trans (hb3.mono hXs)) (Nat.le_refl _)) (Nat.le_refl _)) (Nat.le_refl _)
    refine bodyPost_ret (v := .agg #[.bool false, d, .int .i64 0]) ?_ rfl ⟨_, rfl, ⟨_, (by rw [t]), hn⟩, hbY⟩
    simp [results, Tryd.results21, go_sem, hx0, hx1, hx2]
end Go.Proofs.YtjapoobegjoblaaDoor

/-
The reference's Int64. No condition.
-/
namespace Go.Proofs.YtjapoobegjoblaaDoor
open Go.RowKit

/-! ### Plain numbers -/
theorem trn_low {M : Nat} {E e : Int} (h : e ≤ E) (h0 : e ≤ 0) : trn M E = lo M E e / 2 ^ (-e).toNat := by
  have hd : deq M E (lo M E e) e := ⟨(E - e).toNat, 0, by simp [lo], by omega⟩
  rw [trn_deq hd]
  unfold trn
  rw [show e.toNat = 0 by omega, Nat.pow_zero, Nat.mul_one]
theorem exT_low {M : Nat} {E e : Int} (h : e ≤ E) : exT M E = decide (lo M E e % 2 ^ (-e).toNat = 0) := by
  rcases Nat.eq_zero_or_pos M with h0 | h0
  · subst h0
    unfold exT lo
    rw [Nat.zero_mul, Nat.zero_mod, Nat.zero_mod]
  · have hd : deq M E (lo M E e) e := ⟨(E - e).toNat, 0, by simp [lo], by omega⟩
    rw [exT_deq h0 hd]
    rfl
theorem cmpI_mul {i j k : Int} (hk : 0 < k) : cmpI (i * k) (j * k) = cmpI i j := by
  rcases Int.lt_trichotomy i j with h | h | h
  · rw [cmpI_lt h, cmpI_lt (Int.mul_lt_mul_of_pos_right h hk)]
  · subst h; unfold cmpI; rw [if_neg (by omega), if_neg (by omega), if_neg (by omega), if_neg (by omega)]
  · rw [cmpI_gt h, cmpI_gt (Int.mul_lt_mul_of_pos_right h hk)]
theorem sI_mulI (n : Bool) (x y : Nat) : sI n (x * y) = sI n x * (y : Int) := by cases n <;> simp [sI, Int.neg_mul]
/-- An order at a lower exponent. -/
theorem cmp_low {n1 n2 : Bool} {x y : Nat} {e1 e2 e : Int} (h : e ≤ min e1 e2) :
    cmpI (sI n1 (x * 2 ^ (e1 - min e1 e2).toNat)) (sI n2 (y * 2 ^ (e2 - min e1 e2).toNat)) = cmpI (sI n1 (lo x e1 e)) (sI n2 (lo y e2 e)) := by
  have k1 : x * 2 ^ (e1 - min e1 e2).toNat * 2 ^ (min e1 e2 - e).toNat = lo x e1 e := lo_lo (M := x) (E := e1) (by omega) h
  have k2 : y * 2 ^ (e2 - min e1 e2).toNat * 2 ^ (min e1 e2 - e).toNat = lo y e2 e := lo_lo (M := y) (E := e2) (by omega) h
  rw [← k1, ← k2, sI_mulI n1 _ (2 ^ (min e1 e2 - e).toNat), sI_mulI n2 _ (2 ^ (min e1 e2 - e).toNat), cmpI_mul]
  have := Nat.two_pow_pos (min e1 e2 - e).toNat
  omega
/-- Below the least number of 64 bits. -/
theorem i64_less {n : Bool} {M : Nat} {E : Int} (h : cmpI (sI n (M * 2 ^ (E - min E 63).toNat)) (sI true (1 * 2 ^ (63 - min E 63).toNat)) < 0) : i64V n M E = -9223372036854775808 ∧ i64A n M E = 1 := by
  rw [cmp_low (e := min E 0) (by omega)] at h
  have h1 : sI n (lo M E (min E 0)) < sI true (lo 1 63 (min E 0)) := by
    refine Int.lt_of_not_ge fun hc => ?_
    rcases Int.lt_or_eq_of_le hc with h2 | h2
    · rw [cmpI_gt h2] at h; omega
    · rw [← h2] at h; unfold cmpI at h; rw [if_neg (by omega), if_neg (by omega)] at h; omega
  have h2 : lo 1 63 (min E 0) = 9223372036854775808 * 2 ^ (-(min E 0)).toNat := by
    unfold lo
    rw [show (63 - min E 0).toNat = 63 + (-(min E 0)).toNat by omega, Nat.pow_add, Nat.one_mul]
  rw [h2] at h1
  have hn : n = true := by
    cases n
    · simp only [sI, Bool.false_eq_true, if_false, if_true] at h1; omega
    · rfl
  subst hn
  simp only [sI, if_true] at h1
  obtain ⟨D, hD⟩ : ∃ D, D = 2 ^ (-(min E 0)).toNat := ⟨_, rfl⟩
  have hD0 : 0 < D := by rw [hD]; exact Nat.two_pow_pos _
  have ht := trn_low (M := M) (show min E 0 ≤ E by omega) (by omega)
  have he := exT_low (M := M) (show min E 0 ≤ E by omega)
  rw [← hD] at h1 ht he
  have h3 : 9223372036854775808 * D < lo M E (min E 0) := by omega
  have h4 : 9223372036854775808 ≤ trn M E := by rw [ht, Nat.le_div_iff_mul_le hD0]; omega
  unfold i64V i64A
  refine ⟨by rw [if_neg (by omega)]; rfl, ?_⟩
  rw [if_neg]
  · rfl
  · rintro ⟨k1, k2⟩
    have k3 : trn M E = 9223372036854775808 := by rcases k2 with k2 | k2 <;> omega
    rw [he] at k1
    have k4 := of_decide_eq_true k1
    have k5 := Nat.div_add_mod (lo M E (min E 0)) D
    rw [← ht, k3, k4, Nat.mul_comm] at k5
    omega
/-- Above the greatest number of 64 bits. -/
theorem i64_more {n : Bool} {M : Nat} {E : Int} (h : 0 < cmpI (sI n (M * 2 ^ (E - min E 0).toNat)) (sI false (9223372036854775807 * 2 ^ (0 - min E 0).toNat))) : i64V n M E = 9223372036854775807 ∧ i64A n M E = -1 := by
  rw [cmp_low (e := min E 0) (by omega)] at h
  have h1 : sI false (lo 9223372036854775807 0 (min E 0)) < sI n (lo M E (min E 0)) := by
    refine Int.lt_of_not_ge fun hc => ?_
    rcases Int.lt_or_eq_of_le hc with h2 | h2
    · rw [cmpI_lt h2] at h; omega
    · rw [← h2] at h; unfold cmpI at h; rw [if_neg (by omega), if_neg (by omega)] at h; omega
  have h2 : lo 9223372036854775807 0 (min E 0) = 9223372036854775807 * 2 ^ (-(min E 0)).toNat := by
    unfold lo
    rw [show (0 - min E 0).toNat = (-(min E 0)).toNat by omega]
  rw [h2] at h1
  have hn : n = false := by
    cases n
    · rfl
    · simp only [sI, Bool.false_eq_true, if_false, if_true] at h1; omega
  subst hn
  simp only [sI, Bool.false_eq_true, if_false] at h1
  obtain ⟨D, hD⟩ : ∃ D, D = 2 ^ (-(min E 0)).toNat := ⟨_, rfl⟩
  have hD0 : 0 < D := by rw [hD]; exact Nat.two_pow_pos _
  have ht := trn_low (M := M) (show min E 0 ≤ E by omega) (by omega)
  have he := exT_low (M := M) (show min E 0 ≤ E by omega)
  rw [← hD] at h1 ht he
  have h3 : 9223372036854775807 * D < lo M E (min E 0) := by omega
  have h4 : 9223372036854775807 ≤ trn M E := by rw [ht, Nat.le_div_iff_mul_le hD0]; omega
  unfold i64V i64A
  refine ⟨?_, ?_⟩
  · split
    · rw [show trn M E = 9223372036854775807 by omega]; rfl
    · rfl
  · rw [if_neg]
    · rfl
    · rintro ⟨k1, k2⟩
      have k3 : trn M E = 9223372036854775807 := by
        rcases k2 with k2 | k2
        · omega
        · exact absurd k2.1 (by decide)
      rw [he] at k1
      have k4 := of_decide_eq_true k1
      have k5 := Nat.div_add_mod (lo M E (min E 0)) D
      rw [← ht, k3, k4, Nat.mul_comm] at k5
      omega
theorem wrap_neg {t : Nat} (h : t ≤ 9223372036854775808) : (if t < 9223372036854775808 then -(t : Int) else -9223372036854775808) = IntKind.i64.wrap (-IntKind.i64.wrap (t : Int)) := by
  rw [IntKind.wrap_i64, IntKind.wrap_i64]
  by_cases h1 : t < 9223372036854775808
  · rw [if_pos h1]; omega
  · rw [if_neg h1]; omega
theorem wrap_pos {t : Nat} (h : t < 9223372036854775808) : (t : Int) = IntKind.i64.wrap (t : Int) := by
  rw [IntKind.wrap_i64]; omega
/-- Between the two. -/
theorem i64_mid {n : Bool} {M : Nat} {E : Int} (h1 : 0 ≤ cmpI (sI n (M * 2 ^ (E - min E 63).toNat)) (sI true (1 * 2 ^ (63 - min E 63).toNat))) (h2 : cmpI (sI n (M * 2 ^ (E - min E 0).toNat)) (sI false (9223372036854775807 * 2 ^ (0 - min E 0).toNat)) ≤ 0) :
    i64A n M E = accI n (exT M E) ∧ trn M E ≤ 9223372036854775808 ∧ (n = false → trn M E < 9223372036854775808) ∧ i64V n M E = (if n then IntKind.i64.wrap (-IntKind.i64.wrap (trn M E : Int)) else IntKind.i64.wrap (trn M E : Int)) := by
  rw [cmp_low (e := min E 0) (by omega)] at h1 h2
  have g1 : sI true (lo 1 63 (min E 0)) ≤ sI n (lo M E (min E 0)) := by
    refine Int.not_lt.1 fun hc => ?_
    rw [cmpI_lt hc] at h1; omega
  have g2 : sI n (lo M E (min E 0)) ≤ sI false (lo 9223372036854775807 0 (min E 0)) := by
    refine Int.not_lt.1 fun hc => ?_
    rw [cmpI_gt hc] at h2; omega
  have e1 : lo 1 63 (min E 0) = 9223372036854775808 * 2 ^ (-(min E 0)).toNat := by
    unfold lo
    rw [show (63 - min E 0).toNat = 63 + (-(min E 0)).toNat by omega, Nat.pow_add, Nat.one_mul]
  have e2 : lo 9223372036854775807 0 (min E 0) = 9223372036854775807 * 2 ^ (-(min E 0)).toNat := by
    unfold lo
    rw [show (0 - min E 0).toNat = (-(min E 0)).toNat by omega]
  rw [e1] at g1
  rw [e2] at g2
  obtain ⟨D, hD⟩ : ∃ D, D = 2 ^ (-(min E 0)).toNat := ⟨_, rfl⟩
  have hD0 : 0 < D := by rw [hD]; exact Nat.two_pow_pos _
  have ht := trn_low (M := M) (show min E 0 ≤ E by omega) (by omega)
  have he := exT_low (M := M) (show min E 0 ≤ E by omega)
  rw [← hD] at g1 g2 ht he
  have k5 := Nat.div_add_mod (lo M E (min E 0)) D
  rw [← ht, Nat.mul_comm] at k5
  have hml := Nat.mod_lt (lo M E (min E 0)) hD0
  have hacc : ∀ b : Bool, accI n b = if b then 0 else if n then 1 else -1 := fun b => rfl
  cases n
  · simp only [sI, Bool.false_eq_true, if_false] at g2
    have k6 : trn M E < 9223372036854775808 := by
      have : lo M E (min E 0) < 9223372036854775808 * D := by omega
      rw [ht]; exact Nat.div_lt_of_lt_mul (by rw [Nat.mul_comm]; exact this)
    refine ⟨?_, by omega, fun _ => k6, ?_⟩
    · rw [hacc]; unfold i64A
      by_cases hx : exT M E = true
      · rw [if_pos ⟨hx, .inl k6⟩, if_pos hx]
      · rw [if_neg (fun hc => hx hc.1), if_neg hx]
    · unfold i64V
      rw [if_pos k6]
      simp only [sI, Bool.false_eq_true, if_false]
      exact wrap_pos k6
  · simp only [sI, if_true] at g1
    have k6 : lo M E (min E 0) ≤ 9223372036854775808 * D := by omega
    have k7 : trn M E ≤ 9223372036854775808 := by
      rw [ht]; exact Nat.le_of_lt_succ (Nat.div_lt_of_lt_mul (by rw [Nat.mul_comm, Nat.succ_mul]; omega))
    have k8 : trn M E = 9223372036854775808 → exT M E = true := fun hc => by
      rw [he]
      rw [hc] at k5
      exact decide_eq_true (by omega)
    refine ⟨?_, k7, fun hc => absurd hc (by decide), ?_⟩
    · rw [hacc]; unfold i64A
      by_cases hx : exT M E = true
      · rw [if_pos hx, if_pos ⟨hx, by
          rcases Nat.lt_or_ge (trn M E) 9223372036854775808 with h | h
          · exact .inl h
          · exact .inr ⟨rfl, by omega⟩⟩]
      · rw [if_neg (fun hc => hx hc.1), if_neg hx]
    · unfold i64V
      simp only [sI, if_true]
      exact wrap_neg k7
/-! ### Walks -/
theorem cut2 (n : Bool) (a : Value) (M : Nat) (E : Int) (w : World) (ha : NatV w a M) (hM : nl M ≤ 10000000) (hE : -100000000 ≤ E ∧ E ≤ 100000000) :
    Calls Tryd.prog 24 #[.bool n, a, .int .i64 (-E), .int .i64 2] w fun e w' => ∃ r, e = .returned (.tuple #[r, .int .i64 (accI n (exT M E))]) ∧ NPost (trn M E) w r w' := by
  rcases Int.le_total 0 E with h | h
  · obtain ⟨k, rfl⟩ := Int.eq_ofNat_of_zero_le h
    have e1 : trn M (k : Int) = M * 2 ^ k := by unfold trn; rw [show (-(k : Int)).toNat = 0 by omega, Nat.pow_zero, Nat.div_one]; simp
    have e2 : exT M (k : Int) = true := by unfold exT; rw [show (-(k : Int)).toNat = 0 by omega, Nat.pow_zero, Nat.mod_one]; rfl
    rw [e1, e2]
    exact spCut_neg n a M k (-(k : Int)) 2 w ha hM rfl (by omega)
  · obtain ⟨k, hk⟩ := Int.eq_ofNat_of_zero_le (show 0 ≤ -E by omega)
    have h1 := spCut_any n a M k 2 w ha hM (by omega) (by decide)
    have e1 : trn M E = ctQ 2 n M k := by
      unfold trn ctQ ctU awy
      rw [hk, show E.toNat = 0 by omega, Nat.pow_zero, Nat.mul_one]
      simp
    have e2 : accI n (exT M E) = ctA 2 n M k := by
      unfold exT ctA ctU awy accI
      rw [hk]
      simp only [Int.toNat_natCast, decide_eq_true_eq]
      by_cases h2 : M % 2 ^ k = 0
      · rw [if_pos h2, if_pos (lef_zero.2 ⟨h2, rfl⟩)]
      · rw [if_neg h2, if_neg (fun hc => h2 (lef_zero.1 hc).1)]
        cases n <;> simp
    rw [e1, e2, hk]
    exact h1
theorem ksD2 {W X : World} {k l : Nat} {a b c a' b' c' : Value} {T T' : TypeId} (hr : W.heap[k]? = some (.cells #[a, b, c] T (0, 0))) (hq : W.heap[l]? = some (.cells #[a', b', c'] T' (0, 0))) (h : Below W.heap.size W X) :
    Below W.heap.size W X ∧ (X.cell? ⟨k, 0, none⟩ = some a ∧ X.cell? ⟨k, 1, none⟩ = some b ∧ X.cell? ⟨k, 2, none⟩ = some c) ∧ X.cell? ⟨l, 0, none⟩ = some a' ∧ X.cell? ⟨l, 1, none⟩ = some b' ∧ X.cell? ⟨l, 2, none⟩ = some c' := by
  obtain ⟨x0, x1, x2, -, -, -⟩ := row3 (keep_row h hr)
  obtain ⟨y0, y1, y2, -, -, -⟩ := row3 (keep_row h hq)
  exact ⟨h, ⟨x0, x1, x2⟩, y0, y1, y2⟩
theorem nl_wrap (T k : Nat) : IntKind.i64.wrap (IntKind.i64.wrap (IntKind.i64.wrap ((T / 65536 ^ (k + 1) : Nat) : Int) * 65536) + ((dig T k : Nat) : Int)) = IntKind.i64.wrap ((T / 65536 ^ k : Nat) : Int) := by
  have h1 := div_pow_step T k
  rw [h1]
  rw [IntKind.wrap_i64, IntKind.wrap_i64, IntKind.wrap_i64, IntKind.wrap_i64]
  omega
theorem wrap_bd (x : Int) : -9223372036854775808 ≤ IntKind.i64.wrap x ∧ IntKind.i64.wrap x ≤ 9223372036854775807 := by rw [IntKind.wrap_i64]; omega
theorem bl_one' : bl 1 ≤ 60000 := Nat.le_trans (bl_le (k := 1) (by decide)) (by decide)
theorem bl_top' : bl 9223372036854775807 ≤ 60000 := Nat.le_trans (bl_le (k := 64) (by decide)) (by decide)
theorem i64_top {ng : Bool} {T : Nat} (h : sI ng T = smV false 1 63 true 1 0) : ng = false ∧ T = 9223372036854775807 := by
  have h1 : smV false 1 63 true 1 0 = 9223372036854775807 := by decide
  rw [h1] at h
  cases ng
  · simp only [sI, Bool.false_eq_true, if_false] at h; exact ⟨rfl, by omega⟩
  · simp only [sI, if_true] at h; omega
set_option maxRecDepth 100000 in
set_option maxHeartbeats 3200000 in
theorem spInt64 (n : Bool) (a : Value) (E : Int) (M : Nat) (w : World) (ha : NatV w a M) (hM : bl M ≤ 60000) (hE : -100000 ≤ E ∧ E ≤ 100000) :
    Calls Tryd.prog 16 #[.agg #[.bool n, a, .int .i64 E]] w fun e' w' => e' = .returned (.tuple #[.int .i64 (i64V n M E), .int .i64 (i64A n M E)]) ∧ Below w.heap.size w w' := by
  have hS := ha.isS
  have hab := (Below.refl w.heap.size w).alloc (Nat.le_refl _) (.cells #[.bool n, a, .int .i64 E] 33)
  obtain ⟨X, hX⟩ : ∃ X, X = w.alloc (.cells #[.bool n, a, .int .i64 E] 33) := ⟨_, rfl⟩
  have hr1 : X.heap[w.heap.size]? = some (.cells #[.bool n, a, .int .i64 E] 33 (0, 0)) := by rw [hX]; exact row_chain11
  rw [← hX] at hab
  have HA := Lib.hid (ha.below hab)
  have HR := Lib.hid hr1
  have HB := Lib.hid hab
  have hXs := hab.size
  have HM := Lib.hid hM
  obtain ⟨hE1, hE2⟩ := hE
  obtain ⟨V, hV⟩ : ∃ V, V = i64V n M E := ⟨_, rfl⟩
  obtain ⟨A, hA⟩ : ∃ A, A = i64A n M E := ⟨_, rfl⟩
  have HV := Lib.hid hV
  have HAC := Lib.hid hA
  rw [← hV, ← hA]
  clear ha hab hr1 hM hV hA
  go_enter Tryd.func16, Tryd.ntmps16
  go_upto_region 1 with fail
  rw [← hX]
  clear hX
  go_wp2_with fail
  refine (spSmall 1 X (by decide)).mono ?_
  rintro _ w1 ⟨r, rfl, hr, hb1⟩
  have hSr := hr.isS
  obtain ⟨Y, hY⟩ : ∃ Y, Y = w1.alloc (.cells #[.bool true, r, .int .i64 63] 33) := ⟨_, rfl⟩
  have hbY : Below w1.heap.size w1 Y := by rw [hY]; exact fbone _
  have hr2 : Y.heap[w1.heap.size]? = some (.cells #[.bool true, r, .int .i64 63] 33 (0, 0)) := by rw [hY]; exact row_chain11
  have hbX := bthen hb1 hbY
  have hr1 := keep_row hbX HR.out
  have HR1 := Lib.hid hr1
  have HR2 := Lib.hid hr2
  have HAY := Lib.hid (HA.out.below hbX)
  have HRY := Lib.hid (hr.below hbY)
  have HBY := Lib.hid (HB.out.trans (hbX.mono hXs))
  have hYs := HBY.out.size
  obtain ⟨-, ⟨x0, x1, x2⟩, y0, y1, y2⟩ := ksD2 hr1 hr2 (Below.refl _ _)
  clear hr hb1 hbY hr1 hr2 hbX hXs
  go_upto_region 2 with fail
  rw [← hY]
  clear hY
  go_wp2_with fail
  refine (order_real 60000 100000 1 1 n true a r E 63 M 1 Y HAY.out HRY.out HM.out (by omega) (by omega) bl_one' (by decide) (by decide) (by decide) (by decide)).mono ?_
  rintro _ w2 ⟨rfl, hb2⟩
  obtain ⟨C, hC⟩ : ∃ C, C = cmpI (sI n (M * 2 ^ (E - min E 63).toNat)) (sI true (1 * 2 ^ (63 - min E 63).toNat)) := ⟨_, rfl⟩
  rw [← hC]
  have HC := Lib.hid hC
  clear hC
  by_cases hc : C < 0
  · have t1 : decide (C < 0) = true := decide_eq_true hc
    have K := Lib.hid (i64_less (n := n) (M := M) (E := E) (by rw [← HC.out]; exact hc))
    have HB2 := Lib.hid (HBY.out.trans (hb2.mono hYs))
    clear hc hb2
    go_wp2
    go_ret2
    rw [HV.out, HAC.out, K.out.1, K.out.2]
    exact ⟨rfl, HB2.out⟩
  have t1 : decide (C < 0) = false := decide_eq_false hc
  have HC0 := Lib.hid hc
  clear hc
  have hr1 := keep_row hb2 HR1.out
  have hr2 := keep_row hb2 HR2.out
  have HR3 := Lib.hid hr1
  have HR4 := Lib.hid hr2
  have HA2 := Lib.hid (HAY.out.below hb2)
  have HR2' := Lib.hid (HRY.out.below hb2)
  have HB2 := Lib.hid (HBY.out.trans (hb2.mono hYs))
  have h2s := HB2.out.size
  have hcc := Below.refl w2.heap.size w2
  clear x0 x1 x2 y0 y1 y2 hr1 hr2 hb2 hYs
  obtain ⟨C2, hC2⟩ : ∃ C, C = cmpI (sI n (M * 2 ^ (E - min E 0).toNat)) (sI false (9223372036854775807 * 2 ^ (0 - min E 0).toNat)) := ⟨_, rfl⟩
  have HC2 := Lib.hid hC2
  clear hC2
  by_cases hc2 : 0 < C2
  · have t2 : decide (0 < C2) = true := decide_eq_true hc2
    have K := Lib.hid (i64_more (n := n) (M := M) (E := E) (by rw [← HC2.out]; exact hc2))
    clear hc2
    go_wp2_with fail
    first
      | (go_region_held3 (fun w' => Below w2.heap.size w2 w' ∧ (w'.cell? ⟨w.heap.size, 0, none⟩ = some (.bool n) ∧ w'.cell? ⟨w.heap.size, 1, none⟩ = some a ∧ w'.cell? ⟨w.heap.size, 2, none⟩ = some (.int .i64 E)) ∧ w'.cell? ⟨w1.heap.size, 0, none⟩ = some (.bool true) ∧ w'.cell? ⟨w1.heap.size, 1, none⟩ = some r ∧ w'.cell? ⟨w1.heap.size, 2, none⟩ = some (.int .i64 63))
          ((refine ksD2 HR3.out HR4.out ?_; with_reducible first | assumption | exact Below.drew hcc))
          (first
            | (go_at_call 41; refine (dOpp true r 63 _ hSr).mono ?_; rintro _ w3 ⟨rfl, hb3⟩; have hb3 := bthenL hb3 (by assumption); have HR3' := Lib.hid (HR2'.out.below hb3))
            | (go_at_call 21; refine (whole_any (-1) _ (by omega) (by omega)).mono ?_; rintro _ w4 ⟨_, rfl, ⟨o, rfl, ho⟩, hb4⟩; have hSo := ho.isS; have HO := Lib.hid ho; clear ho; have HR4' := Lib.hid (HR3'.out.below hb4); have hb4 := bthen hb3 hb4)
            | (go_at_call 19; refine (dSum_sm _ _ r o _ _ 1 _ _ HR4'.out HO.out (Nat.le_trans bl_one' (by decide)) (Nat.le_trans bl_one' (by decide)) (by decide) (by decide)).mono ?_; rintro _ w5 ⟨ng, c, T, rfl, hcn, hs, hb5⟩; have hTn : ng = false ∧ T = 9223372036854775807 := i64_top hs; obtain ⟨rfl, rfl⟩ := hTn; have hSc := hcn.isS; have HCN := Lib.hid hcn; clear hcn hs; have hb5 := bthen hb4 hb5; rw [show min (63 : Int) 0 = 0 from rfl])
            | (go_at_call 23; refine (order_real 60000 100000 1 1 n false a c E 0 M 9223372036854775807 _ (HA2.out.below hb5) HCN.out HM.out (by omega) (by omega) bl_top' (by decide) (by decide) (by decide) (by decide)).mono ?_; rintro _ w6 ⟨rfl, hb6⟩; rw [← HC2.out]; have hb6 := bthen hb5 hb6)))
      | fail
    all_goals
      have HB6 := Lib.hid (HB2.out.trans (hb6.mono h2s))
      go_wp2
      go_ret2
      rw [HV.out, HAC.out, K.out.1, K.out.2]
      exact ⟨rfl, HB6.out⟩
  have t2 : decide (0 < C2) = false := decide_eq_false hc2
  have K := Lib.hid (i64_mid (n := n) (M := M) (E := E) (by rw [← HC.out]; have := HC0.out; omega) (by rw [← HC2.out]; omega))
  clear hc2
  go_wp2_with fail
  first
    | (go_region_held3 (fun w' => Below w2.heap.size w2 w' ∧ (w'.cell? ⟨w.heap.size, 0, none⟩ = some (.bool n) ∧ w'.cell? ⟨w.heap.size, 1, none⟩ = some a ∧ w'.cell? ⟨w.heap.size, 2, none⟩ = some (.int .i64 E)) ∧ w'.cell? ⟨w1.heap.size, 0, none⟩ = some (.bool true) ∧ w'.cell? ⟨w1.heap.size, 1, none⟩ = some r ∧ w'.cell? ⟨w1.heap.size, 2, none⟩ = some (.int .i64 63))
        ((refine ksD2 HR3.out HR4.out ?_; with_reducible first | assumption | exact Below.drew hcc))
        (first
          | (go_at_call 41; refine (dOpp true r 63 _ hSr).mono ?_; rintro _ w3 ⟨rfl, hb3⟩; have hb3 := bthenL hb3 (by assumption); have HR3' := Lib.hid (HR2'.out.below hb3))
          | (go_at_call 21; refine (whole_any (-1) _ (by omega) (by omega)).mono ?_; rintro _ w4 ⟨_, rfl, ⟨o, rfl, ho⟩, hb4⟩; have hSo := ho.isS; have HO := Lib.hid ho; clear ho; have HR4' := Lib.hid (HR3'.out.below hb4); have hb4 := bthen hb3 hb4)
          | (go_at_call 19; refine (dSum_sm _ _ r o _ _ 1 _ _ HR4'.out HO.out (Nat.le_trans bl_one' (by decide)) (Nat.le_trans bl_one' (by decide)) (by decide) (by decide)).mono ?_; rintro _ w5 ⟨ng, c, T, rfl, hcn, hs, hb5⟩; have hTn : ng = false ∧ T = 9223372036854775807 := i64_top hs; obtain ⟨rfl, rfl⟩ := hTn; have hSc := hcn.isS; have HCN := Lib.hid hcn; clear hcn hs; have hb5 := bthen hb4 hb5; rw [show min (63 : Int) 0 = 0 from rfl])
          | (go_at_call 23; refine (order_real 60000 100000 1 1 n false a c E 0 M 9223372036854775807 _ (HA2.out.below hb5) HCN.out HM.out (by omega) (by omega) bl_top' (by decide) (by decide) (by decide) (by decide)).mono ?_; rintro _ w6 ⟨rfl, hb6⟩; rw [← HC2.out]; have hb6 := bthen hb5 hb6)))
    | fail
  all_goals
    have HB6 := Lib.hid (HB2.out.trans (hb6.mono h2s))
  all_goals
    have hr6 := keep_row hb6 HR3.out
    obtain ⟨x0, x1, x2, -, -, -⟩ := row3 hr6
    have HR6 := Lib.hid hr6
    have HA6 := Lib.hid (HA2.out.below hb6)
    have h6s := HB6.out.size
    clear hb6 hr6
    go_wp2_with fail
    refine (cut2 n a M E w6 HA6.out (nl_of_bl (by have := HM.out; omega)) (by omega)).mono ?_
    rintro _ w7 ⟨q, rfl, hq, hb7⟩
    have hSq := hq.isS
    have hLq := hq.len
    obtain ⟨T, hT⟩ : ∃ T, T = trn M E := ⟨_, rfl⟩
    rw [← hT] at hq hLq
    obtain ⟨sd, hsd⟩ : ∃ sd, sd = accI n (exT M E) := ⟨_, rfl⟩
    have hsdb : -1 ≤ sd ∧ sd ≤ 1 := by rw [hsd]; unfold accI; cases (exT M E) <;> cases n <;> decide
    rw [← hsd]
    obtain ⟨L, hL⟩ : ∃ L, L = nl T := ⟨_, rfl⟩
    rw [← hL] at hLq
    have HT := Lib.hid hT
    have HSD := Lib.hid hsd
    have HL := Lib.hid hL
    have HLB : L ≤ 10 := by
      rw [hL]
      refine Nat.le_trans (nl_le (L := 4) ?_) (by decide)
      have := K.out.2.1
      rw [hT]; omega
    have HQ := Lib.hid hq
    have HB7 := Lib.hid (HB6.out.trans (hb7.mono h6s))
    have h7s := HB7.out.size
    have HR7 := Lib.hid (keep_row hb7 HR6.out)
    clear hq hT hsd hL hb7 x0 x1 x2
    go_wp2
    go_loopw [7, 8] (fun nv iv wr => ∃ k : Nat, k ≤ L ∧ iv = .int .i64 ((k : Int) - 1) ∧ nv = .int .i64 (IntKind.i64.wrap ((T / 65536 ^ k : Nat) : Int)) ∧ Below w7.heap.size w7 wr) (fun _ iv _ => (intOf iv + 1).toNat)
    case atStart =>
      refine ⟨L, Nat.le_refl _, by go_num, ?_, Below.refl _ _⟩
      have e1 := lt_nl T
      rw [← HL.out] at e1
      rw [Nat.div_eq_of_lt e1]; rfl
    case round =>
      obtain ⟨k, hk, rfl, rfl, hbl⟩ := hrel
      by_cases hk0 : 0 < k
      · obtain ⟨j, rfl⟩ : ∃ j, k = j + 1 := ⟨k - 1, by omega⟩
        have ca := (HQ.out.below hbl).cell j (by rw [← HL.out]; omega)
        obtain ⟨p, hp⟩ : ∃ p, p = dig T j := ⟨_, rfl⟩
        have hw := nl_wrap T j
        have hpb : p < 65536 := by rw [hp]; exact dig_lt _ _
        rw [← hp] at ca hw
        have hub := wrap_bd ((T / 65536 ^ (j + 1) : Nat) : Int)
        obtain ⟨U, hU⟩ : ∃ U, U = IntKind.i64.wrap ((T / 65536 ^ (j + 1) : Nat) : Int) := ⟨_, rfl⟩
        rw [← hU] at hw hub ⊢
        have hub2 := wrap_bd (U * 65536)
        obtain ⟨U2, hU2⟩ : ∃ U2, U2 = IntKind.i64.wrap (U * 65536) := ⟨_, rfl⟩
        rw [← hU2] at hw hub2
        have hU2' := hU2.symm
        have hub3 := wrap_bd ((T / 65536 ^ j : Nat) : Int)
        obtain ⟨U3, hU3⟩ : ∃ U3, U3 = IntKind.i64.wrap ((T / 65536 ^ j : Nat) : Int) := ⟨_, rfl⟩
        rw [← hU3] at hw hub3
        have HU3 := Lib.hid hU3
        clear hp hU hU2 hU3
        rw [show ((j + 1 : Nat) : Int) - 1 = (j : Int) by omega]
        have t3 : decide ((0:Int) ≤ (j : Int)) = true := by rw [decide_eq_true_iff]; omega
        have hjL : j < L := by omega
        go_wp2
        exact ⟨⟨j, by omega, by go_num, by rw [HU3.out], hbl⟩, by simp [intOf]⟩
      · have hk1 : k = 0 := by omega
        subst hk1
        have hn0 : IntKind.i64.wrap ((T / 65536 ^ 0 : Nat) : Int) = IntKind.i64.wrap (T : Int) := by rw [Nat.pow_zero, Nat.div_one]
        rw [hn0]
        have hub := wrap_bd (T : Int)
        have hVw := K.out.2.2.2
        rw [← HT.out, ← HV.out] at hVw
        obtain ⟨U, hU⟩ : ∃ U, U = IntKind.i64.wrap (T : Int) := ⟨_, rfl⟩
        rw [← hU] at hub hVw ⊢
        clear hn0 hU
        obtain ⟨x0, x1, x2, -, -, -⟩ := row3 (keep_row hbl HR7.out)
        have HAD : Hid (A = sd) := Lib.hid (by rw [HAC.out, K.out.1, HSD.out])
        have HB8 := Lib.hid (HB7.out.trans (hbl.mono h7s))
        clear hbl
        cases n
        · have HVU : Hid (V = U) := Lib.hid hVw
          clear hVw
          go_wp2
          go_ret2
          rw [HVU.out, HAD.out]
          exact ⟨rfl, HB8.out⟩
        · have hVU : IntKind.i64.wrap (-U) = V := hVw.symm
          clear hVw
          go_wp2
          go_ret2
          rw [HAD.out]
          exact ⟨rfl, HB8.out⟩
end Go.Proofs.YtjapoobegjoblaaDoor

/-
The statements on Neg and Abs. No condition.
-/
namespace Go.Proofs.YtjapoobegjoblaaDoor
open Go.RowKit

theorem told_dyW {w : World} {z : Value} {p m f M : Nat} {n x : Bool} {e : Int} (hf : f = 0 ∨ f = 1) (hz : RealV w z p m f x (rQ p m n 0 M) (e + (rk p M : Nat))) (hM : f = 1 → 0 < M) (hp : 0 < p) (y : Bool) (hy : f = 1 → x = y) :
    Told w z p m y (rQ p m (dyN f n) 0 (dyM f M)) (dyE f e + (rk p (dyM f M) : Nat)) := by
  rcases hf with rfl | rfl
  · obtain ⟨h1, h2, -⟩ := rQ_zero p m (dyN 0 n)
    rw [show dyM 0 M = 0 from rfl, h2]
    exact hz.told0
  · rw [show dyN 1 n = n from rfl, show dyM 1 M = M from rfl, show dyE 1 e = e from rfl, ← hy rfl]
    exact hz.told (rQ_pos n 0 hp (hM rfl)) (deq.refl _ _)
theorem ks15 {W X : World} {i j k : Nat} {a b c d e f a' b' c' d' e' f' x y z : Value} {T T' U : TypeId} (hr : W.heap[i]? = some (.cells #[a, b, c, d, e, f] T (0, 0))) (hq : W.heap[j]? = some (.cells #[a', b', c', d', e', f'] T' (0, 0))) (hs : W.heap[k]? = some (.cells #[x, y, z] U (0, 0))) (h : Below W.heap.size W X) :
    Below W.heap.size W X ∧ (X.cell? ⟨i, 0, none⟩ = some a ∧ X.cell? ⟨i, 1, none⟩ = some b ∧ X.cell? ⟨i, 2, none⟩ = some c ∧ X.cell? ⟨i, 3, none⟩ = some d ∧ X.cell? ⟨i, 4, none⟩ = some e ∧ X.cell? ⟨i, 5, none⟩ = some f) ∧
    (X.cell? ⟨j, 0, none⟩ = some a' ∧ X.cell? ⟨j, 1, none⟩ = some b' ∧ X.cell? ⟨j, 2, none⟩ = some c' ∧ X.cell? ⟨j, 3, none⟩ = some d' ∧ X.cell? ⟨j, 4, none⟩ = some e' ∧ X.cell? ⟨j, 5, none⟩ = some f') ∧
    (X.cell? ⟨k, 0, none⟩ = some x ∧ X.cell? ⟨k, 1, none⟩ = some y ∧ X.cell? ⟨k, 2, none⟩ = some z) :=
  ⟨h, (ks12 hr h).2, (ks12 hq h).2, (row_at (keep_row h hs) rfl).1, (row_at (keep_row h hs) rfl).1, (row_at (keep_row h hs) rfl).1⟩
end Go.Proofs.YtjapoobegjoblaaDoor

/-
The statements on SetMantExp and MantExp. No condition.
-/
namespace Go.Proofs.YtjapoobegjoblaaDoor
open Go.RowKit

theorem dy_one {f M : Nat} {n : Bool} {e : Int} (h : f = 1) : dyN f n = n ∧ dyM f M = M ∧ dyE f e = e := by subst h; exact ⟨rfl, rfl, rfl⟩
theorem RealV.told1 {w : World} {z : Value} {p m f M x : Nat} {neg : Bool} {X e : Int} (hf : f = 1) (h : RealV w z p m f neg M X) (hM : 0 < M) (hq : deq M X x e) : Told w z p m neg x e := by subst hf; exact h.told hM hq
theorem RealOk.one {P E p m f : Nat} {ws : List Nat} {e : Int} (h : RealOk P E p m f ws e) (hf : f = 1) : 0 < wv ws ∧ bl (wv ws) ≤ p ∧ bl (wv ws) ≤ P ∧ ws.length ≤ 1000000 ∧ -(E : Int) ≤ e ∧ e ≤ E := by
  subst hf
  obtain ⟨-, h2, -, h | h | h⟩ := h
  · exact absurd h (by decide)
  · exact absurd h (by decide)
  · exact ⟨h.2.1, h.2.2.1, Nat.le_trans h.2.2.1 h2, h.2.2.2⟩
theorem RealV.ok {w : World} {z : Value} {p m f M P E : Nat} {neg : Bool} {X : Int} (h : RealV w z p m f neg M X) (hp0 : 0 < p) (hp : p ≤ P) (hm : m ≤ 5) (hf : f ≤ 2) (h1 : f = 1 → 0 < M ∧ bl (od M) ≤ p ∧ bl M ≤ 60000000 ∧ -(E : Int) ≤ X ∧ X + bl M ≤ E) :
    ∃ (v : Value) (Ez : Int) (zs : List Nat), z = .agg #[.int .u64 p, .int .i64 m, .int .i64 f, .bool neg, v, .int .i64 Ez] ∧ RW w v zs ∧ RealOk P E p m f zs Ez ∧ (f = 1 → wv zs = od M ∧ zs = wds (od M) ∧ Ez = X + (tz M : Nat) ∧ deq (wv zs) Ez M X) ∧ (f ≠ 1 → zs = [] ∧ Ez = 0) := by
  obtain ⟨v, Ez, zs, B, e1, e2, e3, e4, e5⟩ := h
  refine ⟨v, Ez, zs, e1, e2.rw' e3, ⟨hp0, hp, hm, ?_⟩, fun hf1 => ?_, e4⟩
  · by_cases hf1 : f = 1
    · obtain ⟨k1, k2, k3, k4, k5⟩ := h1 hf1
      obtain ⟨l1, l2⟩ := e5 hf1
      have l3 := tz_le k1
      refine .inr (.inr ⟨hf1, ?_, ?_, ?_, ?_, ?_⟩)
      · rw [l1, wv_wds]; exact od_pos k1
      · rw [l1, wv_wds]; exact k2
      · rw [l1, wds_length, nw_bl (od_pos k1)]
        have : bl (od M) ≤ bl M := by have := bl_od k1; omega
        omega
      · omega
      · omega
    · omega
  · obtain ⟨k1, k2, k3, k4, k5⟩ := h1 hf1
    obtain ⟨l1, l2⟩ := e5 hf1
    have l3 : wv zs = od M := by rw [l1, wv_wds]
    refine ⟨l3, l1, l2, ?_⟩
    rw [l3, l2]; exact (od_deq k1 X).symm
end Go.Proofs.YtjapoobegjoblaaDoor

/-
The thin package's Int64; the statement on it. No condition.
-/
namespace Go.Proofs.YtjapoobegjoblaaDoor
open Go.RowKit

theorem dyN_zero {f M : Nat} {n : Bool} {E : Int} : i64V n (dyM f M) (dyE f E) = i64V (dyN f n) (dyM f M) (dyE f E) ∧ i64A n (dyM f M) (dyE f E) = i64A (dyN f n) (dyM f M) (dyE f E) := by
  by_cases h : f = 1
  · rw [show dyN f n = n from if_pos h]; exact ⟨rfl, rfl⟩
  · rw [show dyM f M = 0 from if_neg h]
    obtain ⟨a1, a2⟩ := i64_zero n (dyE f E)
    obtain ⟨b1, b2⟩ := i64_zero (dyN f n) (dyE f E)
    rw [a1, a2, b1, b2]; exact ⟨rfl, rfl⟩
theorem i64_bd (n : Bool) (M : Nat) (E : Int) : (-9223372036854775808 ≤ i64V n M E ∧ i64V n M E ≤ 9223372036854775807) ∧ -1 ≤ i64A n M E ∧ i64A n M E ≤ 1 := by
  unfold i64V i64A
  constructor
  · split
    · cases n <;> simp only [sI, Bool.false_eq_true, if_false, if_true] <;> omega
    · cases n <;> simp
  · repeat' split
    all_goals omega
set_option maxRecDepth 100000 in
set_option maxHeartbeats 1600000 in
theorem impInt64 (P E p m f : Nat) (neg : Bool) (v : Value) (e : Int) (ws : List Nat) (w : World) (hv : RW w v ws) (ho : RealOk P E p m f ws e) (hf : f ≤ 1) (hP : P ≤ 1000000) (hE : E ≤ 100000000) (hT : TabW w) :
    Calls Tryd.prog 15 #[.agg #[.int .u64 p, .int .i64 m, .int .i64 f, .bool neg, v, .int .i64 e]] w fun e' w' => e' = .returned (.tuple #[.int .i64 (i64V (dyN f neg) (dyM f (wv ws)) (dyE f e)), .int .i64 (i64A (dyN f neg) (dyM f (wv ws)) (dyE f e))]) ∧ Below w.heap.size w w' := by
  have hS := hv.isS
  rw [← dyN_zero.1, ← dyN_zero.2]
  have hab := (Below.refl w.heap.size w).alloc (Nat.le_refl _) (.cells #[.int .u64 p, .int .i64 m, .int .i64 f, .bool neg, v, .int .i64 e] 25)
  obtain ⟨X, hX⟩ : ∃ X, X = w.alloc (.cells #[.int .u64 p, .int .i64 m, .int .i64 f, .bool neg, v, .int .i64 e] 25) := ⟨_, rfl⟩
  have hr1 : X.heap[w.heap.size]? = some (.cells #[.int .u64 p, .int .i64 m, .int .i64 f, .bool neg, v, .int .i64 e] 25 (0, 0)) := by rw [hX]; exact row_chain11
  rw [← hX] at hab
  obtain ⟨-, x0, x1, x2, x3, x4, x5⟩ := ks12 hr1 (Below.refl _ _)
  have HV := Lib.hid (hv.below hab)
  have HO := Lib.hid ho
  have HT := Lib.hid (hT.below hab)
  have HB := Lib.hid hab
  have hXs := hab.size
  have HXB : Hid (f = 1 → -900000000 ≤ e ∧ e + bl (wv ws) ≤ 900000000) := Lib.hid (fun h => by have := ho.one h; omega)
  obtain ⟨hbv, hba⟩ := i64_bd neg (dyM f (wv ws)) (dyE f e)
  obtain ⟨V, hV⟩ : ∃ V, V = i64V neg (dyM f (wv ws)) (dyE f e) := ⟨_, rfl⟩
  obtain ⟨A, hA⟩ : ∃ A, A = i64A neg (dyM f (wv ws)) (dyE f e) := ⟨_, rfl⟩
  have HI := Lib.hid (fun (W : World) (B g : Nat) (h : FVal W B g p m 0 f neg (wv ws) e) (hT : TabW W) => int64_val g B p m f 0 neg (wv ws) e W h hf HXB.out hT)
  rw [← hV, ← hA] at HI
  rw [← hV] at hbv
  rw [← hA] at hba
  rw [← hV, ← hA]
  clear hv ho hT hab hr1 hV hA
  go_enter Tryd.func15, Tryd.ntmps15
  go_upto_region 1 with fail
  rw [← hX]
  clear hX
  go_wp2_with fail
  refine (float_val P E p m f neg v e ws X HV.out HO.out (by omega) (by omega)).mono ?_
  rintro _ w1 ⟨g, rfl, ⟨-, hF⟩, hb1⟩
  have HF := Lib.hid hF
  have HB1 := Lib.hid (HB.out.trans (hb1.mono hXs))
  have HT1 := Lib.hid (HT.out.below hb1)
  clear hF hb1 x0 x1 x2 x3 x4 x5
  go_wp2_with fail
  refine (HI.out w1 _ g HF.out HT1.out).mono ?_
  rintro _ _ ⟨rfl, n1, rfl⟩
  have HB2 := Lib.hid (undrewN' (n := n1) HB1.out)
  go_wp2
  go_ret2
  exact ⟨rfl, HB2.out⟩
set_option maxRecDepth 100000 in
set_option maxHeartbeats 3200000 in
theorem lawInt64 (p1 : Nat) (m1 f1 : Int) (n1 : Bool) (v1 : Value) (e1 : Int) (xs1 : List Nat) (w : World) (hT : TabW w) (hv1 : RW w v1 xs1) (_hg1 : p1 ≤ 18446744073709551615 ∧ (-9223372036854775808 ≤ m1 ∧ m1 ≤ 9223372036854775807) ∧ (-9223372036854775808 ≤ f1 ∧ f1 ≤ 9223372036854775807) ∧ (-9223372036854775808 ≤ e1 ∧ e1 ≤ 9223372036854775807)) :
    Calls Tryd.prog 3 #[.agg #[.int .u64 p1, .int .i64 m1, .int .i64 f1, .bool n1, v1, .int .i64 e1]] w fun e' w' => e' = .returned (.bool true) ∧ Below w.heap.size w w' := by
  have hS1 := hv1.isS
  clear _hg1
  have hab1 := (Below.refl w.heap.size w).alloc (Nat.le_refl _) (.cells #[.int .u64 p1, .int .i64 m1, .int .i64 f1, .bool n1, v1, .int .i64 e1] 25)
  obtain ⟨X, hX⟩ : ∃ X, X = (w.alloc (.cells #[.int .u64 p1, .int .i64 m1, .int .i64 f1, .bool n1, v1, .int .i64 e1] 25)) := ⟨_, rfl⟩
  have hr1 : X.heap[w.heap.size]? = some (.cells #[.int .u64 p1, .int .i64 m1, .int .i64 f1, .bool n1, v1, .int .i64 e1] 25 (0, 0)) := by
    rw [hX]; exact row_chain11
  rw [← hX] at hab1
  obtain ⟨-, ⟨c10, c11, c12, c13, c14, c15⟩⟩ := ksR1 hr1 (Below.refl _ _)
  have HR1 := Lib.hid hr1
  have V1 := Lib.hid (hv1.below hab1)
  have hXs := hab1.size
  have HW := Lib.hid hab1
  have T0 := Lib.hid (hT.below hab1)
  clear hT
  clear hr1 hv1
  clear hab1
  go_enter Tryd.func3, Tryd.ntmps3
  go_upto_region 1 with fail
  rw [← hX]
  clear hX
  go_wp2_with fail
  refine (zzFits1_any p1 m1 f1 e1 n1 v1 xs1 X V1.out).mono ?_
  rintro _ w1 ⟨rfl, hb1⟩
  obtain ⟨fits, hfits⟩ : ∃ f, f = decide (xs1.length ≤ 2147483647) := ⟨_, rfl⟩
  rw [← hfits]
  clear c10 c11 c12 c13 c14 c15 hfits
  obtain ⟨-, ⟨c10, c11, c12, c13, c14, c15⟩⟩ := ksR1 HR1.out hb1
  have HB := Lib.hid hb1
  clear hb1
  cases fits with
  | false =>
    go_wp2
    go_ret
    exact ⟨rfl, HW.out.trans (HB.out.mono hXs)⟩
  | true =>
  go_wp2_with fail
  refine (number_any p1 m1 f1 e1 n1 v1 xs1 w1 (V1.out.below HB.out)).mono ?_
  rintro _ w2 ⟨ok, rfl, hok, hb1⟩
  have hb1 := bthen HB.out hb1
  have HO1 := Lib.hid hok
  clear c10 c11 c12 c13 c14 c15 HB hok
  obtain ⟨-, ⟨c10, c11, c12, c13, c14, c15⟩⟩ := ksR1 HR1.out hb1
  have HB := Lib.hid hb1
  clear hb1
  cases ok with
  | false =>
    go_wp2
    go_ret
    exact ⟨rfl, HW.out.trans (HB.out.mono hXs)⟩
  | true =>
  obtain ⟨hn, P1, M1, F1, hp, rfl, rfl, hR⟩ := HO1.out rfl
  have hpp : P1 = p1 := by omega
  subst hpp
  have R1 := Lib.hid hR
  have N1 : Hid (F1 ≠ 2) := Lib.hid (fun h => hn (by rw [h]; rfl))
  clear HO1 hp hR hn
  have hWW := HW.out.trans (HB.out.mono hXs)
  have hV1 := V1.out.below HB.out
  have hr1 := keep_row HB.out HR1.out
  have hT0 := T0.out.below HB.out
  clear T0
  have T0 := Lib.hid hT0
  clear hT0
  clear HW HB hXs V1 HR1
  have HW := Lib.hid hWW
  have V1 := Lib.hid hV1
  have HR1 := Lib.hid hr1
  have hWs := HW.out.size
  clear hWW hV1 hr1
  have hf1 : F1 ≤ 1 := by have := R1.out.form'; have := N1.out; omega
  obtain ⟨hbv, hba⟩ := i64_bd (dyN F1 n1) (dyM F1 (wv xs1)) (dyE F1 e1)
  have HI := Lib.hid (impInt64 300 1000 P1 M1 F1 n1 v1 e1 xs1 w2 V1.out R1.out hf1 (by decide) (by decide) T0.out)
  have HBD := Lib.hid (dy_bd R1.out)
  have HSP := Lib.hid (fun (W : World) (a : Value) (h : NatV W a (dyM F1 (wv xs1))) => spInt64 (dyN F1 n1) a (dyE F1 e1) (dyM F1 (wv xs1)) W h (by have := HBD.out; omega) (by have := HBD.out; omega))
  obtain ⟨V, hV⟩ : ∃ V, V = i64V (dyN F1 n1) (dyM F1 (wv xs1)) (dyE F1 e1) := ⟨_, rfl⟩
  obtain ⟨A, hA⟩ : ∃ A, A = i64A (dyN F1 n1) (dyM F1 (wv xs1)) (dyE F1 e1) := ⟨_, rfl⟩
  rw [← hV, ← hA] at HI HSP
  rw [← hV] at hbv
  rw [← hA] at hba
  clear hV hA hf1
  go_wp2_with fail
  refine HI.out.mono ?_
  rintro _ w7 ⟨rfl, hb7⟩
  clear c10 c11 c12 c13 c14 c15
  obtain ⟨-, c10, c11, c12, c13, c14, c15⟩ := ks12 HR1.out hb7
  have V7 := Lib.hid (V1.out.below hb7)
  have HW7 := Lib.hid (HW.out.trans (hb7.mono hWs))
  have h7s := HW7.out.size
  clear hb7
  go_wp2_with fail
  refine (ofReal_any 300 1000 P1 M1 F1 e1 n1 v1 xs1 w7 V7.out R1.out).mono ?_
  rintro _ w8 ⟨_, rfl, ⟨b, rfl, hd1⟩, hb8⟩
  have hT1 := hd1.isS
  have HD := Lib.hid hd1
  have HW8 := Lib.hid (HW7.out.trans (hb8.mono h7s))
  have h8s := HW8.out.size
  clear hd1 hb8
  go_wp2_with fail
  refine (HSP.out w8 b HD.out).mono ?_
  rintro _ w9 ⟨rfl, hb9⟩
  have HW9 := Lib.hid (HW8.out.trans (hb9.mono h8s))
  clear hb9
  go_wp2
  go_ret
  exact ⟨rfl, HW9.out⟩
end Go.Proofs.YtjapoobegjoblaaDoor

/-
A statement's argument that is a Real: what it reads as. No condition.
-/
namespace Go.Proofs.YtjapoobegjoblaaDoor
open Go.ChangeShapes Go.WideShapes Go.ChangeAt Go.RowKit

section
variable {H : Type} {enc : TypeId × Value → H} {P : Program} {w : World} {base : Nat} {spare : Nat → Bool} {held : Bool}
theorem trod_struct6 {t : TypeId} {f0 f1 f2 f3 f4 f5 : Field} {fuel : Nat} {cs : List Value} {x : DataW H × List MemPlace} (ht : P.underlying t = some (.struct #[f0, f1, f2, f3, f4, f5])) (h : DataW.trod enc P w base spare held fuel t cs = some x) :
    ∃ y0 y1 y2 y3 y4 y5 n, cs.length = P.cellsOf t ∧ DataW.trod enc P w base spare held n f0.type ((cs.drop f0.offset).take (P.cellsOf f0.type)) = some y0 ∧
      DataW.trod enc P w base spare held n f1.type ((cs.drop f1.offset).take (P.cellsOf f1.type)) = some y1 ∧ DataW.trod enc P w base spare held n f2.type ((cs.drop f2.offset).take (P.cellsOf f2.type)) = some y2 ∧
      DataW.trod enc P w base spare held n f3.type ((cs.drop f3.offset).take (P.cellsOf f3.type)) = some y3 ∧ DataW.trod enc P w base spare held n f4.type ((cs.drop f4.offset).take (P.cellsOf f4.type)) = some y4 ∧
      DataW.trod enc P w base spare held n f5.type ((cs.drop f5.offset).take (P.cellsOf f5.type)) = some y5 := by
  obtain ⟨xs, n, _, rfl, hl, hlen, hf⟩ := DataW.trod_struct ht h
  match xs, hlen with
  | [y0, y1, y2, y3, y4, y5], _ => exact ⟨y0, y1, y2, y3, y4, y5, n, hl, by simpa using hf 0 f0 rfl, by simpa using hf 1 f1 rfl, by simpa using hf 2 f2 rfl, by simpa using hf 3 f3 rfl, by simpa using hf 4 f4 rfl, by simpa using hf 5 f5 rfl⟩
end
section
variable {H : Type} {enc : TypeId × Value → H} {W : World} {base : Nat} {held : Bool}
theorem open_i64 {c : Value} {fuel : Nat} {x : DataW H × List MemPlace} (h : DataW.trod enc Tryd.prog W base (fun _ => true) held fuel 3 [c] = some x) : ∃ n : Int, c = .int .i64 n ∧ -9223372036854775808 ≤ n ∧ n ≤ 9223372036854775807 := by
  obtain ⟨n, hc, _, hw⟩ := DataW.trod_int Tryd.underlying3 h
  exact ⟨n, by simpa using hc, by simpa [Lit.wf, IntKind.min, IntKind.max, IntKind.signed, IntKind.bits] using hw⟩
theorem open_u64 {c : Value} {fuel : Nat} {x : DataW H × List MemPlace} (h : DataW.trod enc Tryd.prog W base (fun _ => true) held fuel 22 [c] = some x) : ∃ n : Nat, c = .int .u64 n ∧ n ≤ 18446744073709551615 := by
  obtain ⟨n, hc, _, hw⟩ := DataW.trod_int Tryd.underlying22 h
  have hb : 0 ≤ n ∧ n ≤ 18446744073709551615 := by simpa [Lit.wf, IntKind.min, IntKind.max, IntKind.signed, IntKind.bits] using hw
  obtain ⟨k, rfl⟩ := Int.eq_ofNat_of_zero_le hb.1
  exact ⟨k, by simpa using hc, by omega⟩
set_option maxRecDepth 100000 in
theorem open_real {v : Value} {r : Reach} {b0 : Nat} {d : DataW H} {p : List MemPlace} (hval : Value.okWide Tryd.prog W r b0 25 v) (h : DataW.Trod enc Tryd.prog W base (fun _ => true) held 25 v d p) :
    ∃ (q : Nat) (m f : Int) (n : Bool) (x : Value) (e : Int) (ws : List Nat), v = .agg #[.int .u64 q, .int .i64 m, .int .i64 f, .bool n, x, .int .i64 e] ∧ RW W x ws ∧
      (q ≤ 18446744073709551615 ∧ (-9223372036854775808 ≤ m ∧ m ≤ 9223372036854775807) ∧ (-9223372036854775808 ≤ f ∧ f ≤ 9223372036854775807) ∧ (-9223372036854775808 ≤ e ∧ e ≤ 9223372036854775807)) := by
  obtain ⟨cs, rfl, hsz⟩ := okWide_struct Tryd.underlying25 hval
  have hc : Tryd.prog.cellsOf 25 = 6 := by kernel_rfl
  rw [hc] at hsz
  obtain ⟨fuel, hf⟩ := h
  obtain ⟨y0, y1, y2, y3, y4, y5, n, hl, h0, h1, h2, h3, h4, h5⟩ := trod_struct6 Tryd.underlying25 hf
  match cs, hsz with
  | ⟨[c0, c1, c2, c3, c4, c5]⟩, _ =>
    have hcu : Tryd.prog.cellsOf 22 = 1 := by kernel_rfl
    have hci : Tryd.prog.cellsOf 3 = 1 := by kernel_rfl
    have hcb : Tryd.prog.cellsOf 4 = 1 := by kernel_rfl
    have hcs : Tryd.prog.cellsOf 23 = 1 := by kernel_rfl
    obtain ⟨q, rfl, hq⟩ := open_u64 (c := c0) (by simpa [hcu, Value.cells] using h0)
    obtain ⟨m, rfl, hm⟩ := open_i64 (c := c1) (by simpa [hci, Value.cells] using h1)
    obtain ⟨f, rfl, hf'⟩ := open_i64 (c := c2) (by simpa [hci, Value.cells] using h2)
    obtain ⟨b, hb, _⟩ := DataW.trod_bool Tryd.underlying4 h3
    have e3 : c3 = .bool b := by simpa [hcb, Value.cells] using hb
    subst e3
    obtain ⟨ws, hw⟩ := open_words (v := c4) (by simpa [hcs, Value.cells] using h4)
    obtain ⟨e, rfl, he⟩ := open_i64 (c := c5) (by simpa [hci, Value.cells] using h5)
    exact ⟨q, m, f, b, c4, e, ws, rfl, hw, hq, hm, hf', he⟩
end
end Go.Proofs.YtjapoobegjoblaaDoor
