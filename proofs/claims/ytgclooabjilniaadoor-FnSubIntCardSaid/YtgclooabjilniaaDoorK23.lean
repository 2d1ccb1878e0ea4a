/-
Texts of this proof, joined: FlX StD StF DyA LwB MoA SmA IfE IfA IfB FlY ImA. No condition.
-/
import Derived.Test.YtgclooabjilniaaDoorK06
import Derived.Test.YtgclooabjilniaaDoorK08
import Derived.Test.YtgclooabjilniaaDoorK15
import Derived.Test.YtgclooabjilniaaDoorK20
import Derived.Test.YtgclooabjilniaaDoorK21
import Derived.Test.YtgclooabjilniaaDoorK22
/-
The reference's Order of two dyadic values. No condition.
-/
namespace Go.Proofs.YtgclooabjilniaaDoor
open Go.RowKit

theorem dSum (n1 n2 : Bool) (a b : Value) (e1 e2 e : Int) (x y A B : Nat) (w : World) (ha : NatV w a x) (hb : NatV w b y) (hm : min e1 e2 = e) (hs1 : e1 - e = (A : Int)) (hs2 : e2 - e = (B : Int)) (g1 : -2000000000 ≤ e1) (g2 : e1 ≤ 2000000000) (g3 : -2000000000 ≤ e2) (g4 : e2 ≤ 2000000000) (g5 : -2000000000 ≤ e)
    (hx : nl x ≤ 1000000000) (hy : nl y ≤ 1000000000) (hA : A ≤ 4000000000) (hB : B ≤ 4000000000) (hP : nl (x * 2 ^ A) ≤ 1000000000) (hQ : nl (y * 2 ^ B) ≤ 1000000000) :
    Calls Tryd.prog 7 #[.agg #[.bool n1, a, .int .i64 e1], .agg #[.bool n2, b, .int .i64 e2]] w fun e' w' => ∃ r, e' = .returned r ∧ SumP (x * 2 ^ A) (y * 2 ^ B) n1 n2 e w r w' := by
  cases n1 <;> cases n2
  · exact dSum_ff a b e1 e2 e x y A B w ha hb hm hs1 hs2 g1 g2 g3 g4 g5 hx hy hA hB hP hQ
  · exact dSum_ft a b e1 e2 e x y A B w ha hb hm hs1 hs2 g1 g2 g3 g4 g5 hx hy hA hB hP hQ
  · exact dSum_tf a b e1 e2 e x y A B w ha hb hm hs1 hs2 g1 g2 g3 g4 g5 hx hy hA hB hP hQ
  · exact dSum_tt a b e1 e2 e x y A B w ha hb hm hs1 hs2 g1 g2 g3 g4 g5 hx hy hA hB hP hQ
theorem sI_not (n : Bool) (x : Nat) : sI (!n) x = - sI n x := by cases n <;> simp [sI]
theorem sgD_cmp {ng : Bool} {M : Nat} {i j : Int} (h : sI ng M = i - j) : sgD ng M = cmpI i j := by
  unfold sgD
  by_cases h0 : M = 0
  · subst h0
    have : i = j := by cases ng <;> simp [sI] at h <;> omega
    rw [if_pos rfl, this]; unfold cmpI; rw [if_neg (by omega), if_neg (by omega)]
  · rw [if_neg h0]
    cases ng
    · have h' : (M : Int) = i - j := h
      rw [cmpI_gt (by omega)]; rfl
    · have h' : -(M : Int) = i - j := h
      rw [cmpI_lt (by omega)]; rfl
set_option maxRecDepth 100000 in
set_option maxHeartbeats 1600000 in
theorem dOrder (n1 n2 : Bool) (a b : Value) (e1 e2 e : Int) (x y A B : Nat) (w : World) (ha : NatV w a x) (hb : NatV w b y) (hm : min e1 e2 = e) (hs1 : e1 - e = (A : Int)) (hs2 : e2 - e = (B : Int)) (g1 : -2000000000 ≤ e1) (g2 : e1 ≤ 2000000000) (g3 : -2000000000 ≤ e2) (g4 : e2 ≤ 2000000000) (g5 : -2000000000 ≤ e)
    (hx : nl x ≤ 1000000000) (hy : nl y ≤ 1000000000) (hA : A ≤ 4000000000) (hB : B ≤ 4000000000) (hP : nl (x * 2 ^ A) ≤ 1000000000) (hQ : nl (y * 2 ^ B) ≤ 1000000000) :
    Calls Tryd.prog 25 #[.agg #[.bool n1, a, .int .i64 e1], .agg #[.bool n2, b, .int .i64 e2]] w fun e' w' => e' = .returned (.int .i64 (cmpI (sI n1 (x * 2 ^ A)) (sI n2 (y * 2 ^ B)))) ∧ Below w.heap.size w w' := by
  have hSa := ha.isS
  have hSb := hb.isS
  have HS : Hid (∀ W : World, NatV W a x → NatV W b y → Calls Tryd.prog 7 #[.agg #[.bool n1, a, .int .i64 e1], .agg #[.bool (!n2), b, .int .i64 e2]] W fun e' w' => ∃ r, e' = .returned r ∧ SumP (x * 2 ^ A) (y * 2 ^ B) n1 (!n2) e W r w') :=
    Lib.hid fun W h1 h2 => dSum n1 (!n2) a b e1 e2 e x y A B W h1 h2 hm hs1 hs2 g1 g2 g3 g4 g5 hx hy hA hB hP hQ
  clear hm hs1 hs2 g1 g2 g3 g4 g5 hx hy hA hB hP hQ
  have hab := (Below.refl w.heap.size w).alloc (Nat.le_refl _) (.cells #[.bool n1, a, .int .i64 e1] 28)
  have hac := hab.alloc hab.size (.cells #[.bool n2, b, .int .i64 e2] 28)
  obtain ⟨X, hX⟩ : ∃ X, X = (w.alloc (.cells #[.bool n1, a, .int .i64 e1] 28)).alloc (.cells #[.bool n2, b, .int .i64 e2] 28) := ⟨_, rfl⟩
  have hr1 : X.heap[w.heap.size]? = some (.cells #[.bool n1, a, .int .i64 e1] 28 (0, 0)) := by
    rw [hX]; exact keep_row (fbone _) (box_row (Below.refl _ _))
  have hr2 : X.heap[w.heap.size + 1]? = some (.cells #[.bool n2, b, .int .i64 e2] 28 (0, 0)) := by
    rw [hX]
    have := box_row (Below.refl _ ((w.alloc (.cells #[.bool n1, a, .int .i64 e1] 28)).alloc (.cells #[.bool n2, b, .int .i64 e2] 28)))
    simpa using this
  rw [← hX] at hac
  obtain ⟨x0, x1, x2, -, -, -⟩ := row3 hr1
  obtain ⟨y0, y1, y2, -, -, -⟩ := row3 hr2
  have NA := Lib.hid (ha.below hac)
  have NB := Lib.hid (hb.below hac)
  have HW := Lib.hid hac
  have hXs := hac.size
  have hcc := Below.refl X.heap.size X
  obtain ⟨P, hP⟩ : ∃ P, P = x * 2 ^ A := ⟨_, rfl⟩
  obtain ⟨Q, hQ⟩ : ∃ Q, Q = y * 2 ^ B := ⟨_, rfl⟩
  rw [← hP, ← hQ] at HS ⊢
  clear hr1 hr2 hab hac ha hb hP hQ
  go_enter Tryd.func25, Tryd.ntmps25
  go_upto_region 1 with fail
  rw [← hX]
  clear hX
  first
    | (go_region_held3 (fun w' => w'.cell? ⟨w.heap.size, 0, none⟩ = some (.bool n1) ∧ w'.cell? ⟨w.heap.size, 1, none⟩ = some a ∧ w'.cell? ⟨w.heap.size, 2, none⟩ = some (.int .i64 e1) ∧ w'.cell? ⟨w.heap.size + 1, 0, none⟩ = some (.bool n2) ∧ w'.cell? ⟨w.heap.size + 1, 1, none⟩ = some b ∧ w'.cell? ⟨w.heap.size + 1, 2, none⟩ = some (.int .i64 e2))
        ((refine ks6 x0 x1 x2 y0 y1 y2 ?_; first | assumption | exact Below.drew hcc))
        (first
          | (go_at_call 11; refine (dOpp n2 b e2 _ hSb).mono ?_; rintro _ w3 ⟨rfl, hb3⟩; have hb3 : Below X.heap.size X w3 := bthen (Below.drew hcc) hb3)
          | (go_at_call 7; refine (HS.out _ (NA.out.below hb3) (NB.out.below hb3)).mono ?_; rintro _ w4 ⟨_, rfl, ng, M, ⟨q, rfl, hq⟩, hM, hb4⟩; have hSq := hq.isS; have hb4 := bthen hb3 hb4; have HM := Lib.hid hM; have HQ4 := Lib.hid hq; clear hM hq)
          | (go_at_call 41; refine (dSign ng q e M _ HQ4.out).mono ?_; rintro _ w5 ⟨rfl, hb5⟩; have hb5 := bthen hb4 hb5)))
    | fail
  all_goals
    go_wp2
    go_ret
    have k := HM.out
    rw [sI_not] at k
    exact ⟨congrArg (fun z => Ending.returned (.int .i64 z)) (sgD_cmp (i := sI n1 P) (j := sI n2 Q) (by omega)), HW.out.trans (hb5.mono hXs)⟩
end Go.Proofs.YtgclooabjilniaaDoor

/-
The thin package's Set, Neg, Abs. No condition.
-/
namespace Go.Proofs.YtgclooabjilniaaDoor
open Go.RowKit

theorem bthenX {B : Nat} {a b c : World} (h : Below B a b) (k : Below B b c) : Below B a c := h.trans k
theorem stA_bd (f p m : Nat) (neg : Bool) (M : Nat) : -1 ≤ stA f p m neg M ∧ stA f p m neg M ≤ 1 := by
  unfold stA rA; repeat' split
  all_goals omega
theorem rQ_range {p m M : Nat} {neg : Bool} {e : Int} (h : bl M ≤ 1000000 ∧ -100000000 ≤ e ∧ e ≤ 100000000) : -900000000 ≤ e + (rk p M : Nat) ∧ e + (rk p M : Nat) + bl (rQ p m neg 0 M) ≤ 900000000 := by
  have h1 := rk_le p M
  have h2 := bl_rQ p m neg 0 M
  omega
end Go.Proofs.YtgclooabjilniaaDoor

/-
The thin package's SetPrec, SetMantExp, MantExp, IsInt. No condition.
-/
namespace Go.Proofs.YtgclooabjilniaaDoor
open Go.RowKit

end Go.Proofs.YtgclooabjilniaaDoor

/-
The value of a Real in the reference. No condition.
-/
namespace Go.Proofs.YtgclooabjilniaaDoor
open Go.RowKit

def dyN (f : Nat) (n : Bool) : Bool := if f = 1 then n else false
def dyM (f M : Nat) : Nat := if f = 1 then M else 0
def dyE (f : Nat) (e : Int) : Int := if f = 1 then e else 0
theorem dy_nl {P E p m f : Nat} {e : Int} {ws : List Nat} (ho : RealOk P E p m f ws e) (hP : P ≤ 64000) : bl (dyM f (wv ws)) ≤ P ∧ -(E : Int) ≤ dyE f e ∧ dyE f e ≤ E := by
  obtain ⟨h1, h2, -, h⟩ := ho
  by_cases hf : f = 1
  · subst hf
    rw [dyM, dyE, if_pos rfl, if_pos rfl]
    rcases h with h | h | h
    · exact absurd h (by decide)
    · exact absurd h (by decide)
    · exact ⟨Nat.le_trans h.2.2.1 h2, h.2.2.2.2.1, h.2.2.2.2.2⟩
  · rw [dyM, dyE, if_neg hf, if_neg hf, bl_zero]; omega
theorem bl_two (x n : Nat) : bl (x * 2 ^ n) ≤ bl x + n := bl_le (by
  rw [Nat.pow_add]; exact Nat.mul_lt_mul_of_pos_right (lt_bl x) (Nat.two_pow_pos n))
theorem nl_of_bl {n k : Nat} (h : bl n ≤ k) : nl n ≤ k := nl_bl (by omega)
theorem RealOk.pos {P E p m f : Nat} {ws : List Nat} {e : Int} (h : RealOk P E p m f ws e) (hf : f = 1) : 0 < wv ws := by
  subst hf
  obtain ⟨-, -, -, h | h | h⟩ := h
  · exact absurd h (by decide)
  · exact absurd h (by decide)
  · exact h.2.1
end Go.Proofs.YtgclooabjilniaaDoor

/-
What is told of a Real against its reference. No condition.
-/
namespace Go.Proofs.YtgclooabjilniaaDoor
open Go.RowKit

theorem rQ_zero (p m : Nat) (neg : Bool) : rk p 0 = 0 ∧ rQ p m neg 0 0 = 0 ∧ rA p m neg 0 0 = 0 := rQ_fits neg (by rw [bl_zero]; exact Nat.zero_le _)
theorem told_dy {w : World} {z : Value} {p m f M : Nat} {n : Bool} {e : Int} (hf : f = 0 ∨ f = 1) (hz : RealV w z p m f n (rQ p m n 0 M) (e + (rk p M : Nat))) (hM : f = 1 → 0 < M) (hp : 0 < p) :
    Told w z p m (dyN f n) (rQ p m (dyN f n) 0 (dyM f M)) (dyE f e + (rk p (dyM f M) : Nat)) := by
  rcases hf with rfl | rfl
  · obtain ⟨h1, h2, -⟩ := rQ_zero p m (dyN 0 n)
    rw [show dyM 0 M = 0 from rfl, h2]
    exact hz.told0
  · rw [show dyN 1 n = n from rfl, show dyM 1 M = M from rfl, show dyE 1 e = e from rfl]
    exact hz.told (rQ_pos n 0 hp (hM rfl)) (deq.refl _ _)
theorem stA_dy {p m f M : Nat} {n : Bool} (hf : f = 0 ∨ f = 1) : stA f p m n M = rA p m (dyN f n) 0 (dyM f M) := by
  rcases hf with rfl | rfl
  · exact (rQ_zero p m (dyN 0 n)).2.2.symm
  · rfl
theorem RealV.form {w : World} {z : Value} {p m f M : Nat} {neg : Bool} {X : Int} (h : RealV w z p m f neg M X) : ∃ (v : Value) (E : Int), z = .agg #[.int .u64 p, .int .i64 m, .int .i64 f, .bool neg, v, .int .i64 E] ∧ IsS v := by
  obtain ⟨v, E, zs, B, h1, h2, -⟩ := h
  exact ⟨v, E, h1, h2.isS⟩
theorem RealOk.form' {P E p m f : Nat} {ws : List Nat} {e : Int} (h : RealOk P E p m f ws e) : f ≤ 2 := by
  obtain ⟨-, -, -, h | h | h⟩ := h <;> omega
theorem pOf_self (k p : Nat) : pOf k (max p p) = pOf k p := by rw [Nat.max_self]
end Go.Proofs.YtgclooabjilniaaDoor

/-
Rounding is monotone. Plain law. No condition.
-/
namespace Go.Proofs.YtgclooabjilniaaDoor
open Go.RowKit

theorem lef_mono {R R' D : Nat} (h : R ≤ R') : lef R D 0 ≤ lef R' D 0 := by
  unfold lef; repeat' split
  all_goals omega
theorem awy_mono {neg odd : Bool} {l l' m : Nat} (h : l ≤ l') (hl : l' ≤ 3) (hu : awy neg odd l m = true) : awy neg odd l' m = true := by
  have c : l = 0 ∨ l = 1 ∨ l = 2 ∨ l = 3 := by omega
  have c' : l' = 0 ∨ l' = 1 ∨ l' = 2 ∨ l' = 3 := by omega
  unfold awy at hu ⊢
  rcases c with rfl | rfl | rfl | rfl <;> rcases c' with rfl | rfl | rfl | rfl <;> first | omega | (cases odd <;> cases neg <;> revert hu <;> (repeat' split) <;> simp)
theorem rQ_mono {p m M N : Nat} (neg : Bool) (hp : 0 < p) (h : M ≤ N) : rQ p m neg 0 M * 2 ^ rk p M ≤ rQ p m neg 0 N * 2 ^ rk p N := by
  have hbl := bl_mono h
  rcases Nat.lt_or_ge (rk p M) (rk p N) with hk | hk
  · have hN : p < bl N := by unfold rk at hk; omega
    obtain ⟨b1, -, -⟩ := rQ_bound (m := m) neg 0 hp hN
    have h1 : rQ p m neg 0 M * 2 ^ rk p M ≤ 2 ^ bl M := by
      rcases Nat.lt_or_ge p (bl M) with hM | hM
      · have := (rQ_bound (m := m) neg 0 hp hM).2.2
        have e : 2 ^ bl M = 2 ^ p * 2 ^ rk p M := by rw [← Nat.pow_add]; congr 1; unfold rk; omega
        rw [e]; exact Nat.mul_le_mul_right _ this
      · obtain ⟨k0, q0, -⟩ := rQ_fits (m := m) neg hM
        rw [k0, q0, Nat.pow_zero, Nat.mul_one]; exact Nat.le_of_lt (lt_bl M)
    have h2 : 2 ^ bl M ≤ 2 ^ (p - 1) * 2 ^ rk p N := by rw [← Nat.pow_add]; exact Nat.pow_le_pow_right (by decide) (by unfold rk at *; omega)
    have h3 : N / 2 ^ rk p N ≤ rQ p m neg 0 N := Nat.le_add_right _ _
    exact Nat.le_trans h1 (Nat.le_trans h2 (Nat.mul_le_mul_right _ (Nat.le_trans b1 h3)))
  · have hk' : rk p M = rk p N := by unfold rk at *; omega
    unfold rQ rU rL
    rw [hk']
    obtain ⟨D, hD⟩ : ∃ D, D = 2 ^ rk p N := ⟨_, rfl⟩
    rw [← hD]
    have hD0 : 0 < D := by rw [hD]; exact Nat.two_pow_pos _
    refine Nat.mul_le_mul_right _ ?_
    have hd : M / D ≤ N / D := Nat.div_le_div_right h
    rcases Nat.lt_or_eq_of_le hd with hlt | heq
    · split <;> split <;> omega
    · have hr : M % D ≤ N % D := by
        have a1 := Nat.div_add_mod M D
        have a2 := Nat.div_add_mod N D
        rw [heq] at a1
        omega
      rw [heq]
      cases hu : awy neg (decide (N / D % 2 = 1)) (lef (M % D) D 0) m with
      | false => simp
      | true => rw [awy_mono (lef_mono hr) (lef_le _ _ _) hu]; exact Nat.le_refl _
def vN (V : Int) : Bool := decide (V < 0)
/-- The rounded value, at the exact value's exponent. -/
def rV (p m : Nat) (V : Int) : Int := sI (vN V) (rQ p m (vN V) 0 V.natAbs * 2 ^ rk p V.natAbs)
theorem rV_mono {p m : Nat} {V W : Int} (hp : 0 < p) (h : V ≤ W) : rV p m V ≤ rV p m W := by
  unfold rV vN
  by_cases h1 : V < 0 <;> by_cases h2 : W < 0
  · rw [decide_eq_true h1, decide_eq_true h2]
    have := rQ_mono (p := p) (m := m) true hp (show W.natAbs ≤ V.natAbs by omega)
    simp only [sI, if_true]; omega
  · rw [decide_eq_true h1, decide_eq_false h2]
    simp only [sI, if_true, Bool.false_eq_true, if_false]; omega
  · omega
  · rw [decide_eq_false h1, decide_eq_false h2]
    have := rQ_mono (p := p) (m := m) false hp (show V.natAbs ≤ W.natAbs by omega)
    simp only [sI, Bool.false_eq_true, if_false]; omega
end Go.Proofs.YtgclooabjilniaaDoor

/-
The reference's sum of two dyadic values, by its value; what is plain in it. No condition.
-/
namespace Go.Proofs.YtgclooabjilniaaDoor
open Go.RowKit

/-- The sum of two dyadic values, at the lower exponent. -/
def smV (n1 : Bool) (M : Nat) (E : Int) (n2 : Bool) (N : Nat) (F : Int) : Int := sI n1 (lo M E (min E F)) + sI n2 (lo N F (min E F))
theorem natAbs_sI (n : Bool) (S : Nat) : (sI n S).natAbs = S := by cases n <;> simp [sI]
theorem vN_sI {n : Bool} {S : Nat} (h : 0 < S) : vN (sI n S) = n := by
  cases n
  · simp [sI, vN]
  · simp [sI, vN]; omega
theorem sI_ne {n : Bool} {S : Nat} (h : 0 < S) : sI n S ≠ 0 := by
  cases n
  · simp [sI]; omega
  · simp [sI]; omega
theorem lo_zero (E e : Int) : lo 0 E e = 0 := Nat.zero_mul _
theorem sI_zero (n : Bool) : sI n 0 = 0 := by cases n <;> rfl
theorem rA_bd (p m : Nat) (neg : Bool) (s M : Nat) : -1 ≤ rA p m neg s M ∧ rA p m neg s M ≤ 1 := by
  unfold rA; repeat' split
  all_goals omega
theorem smV_bl (n1 : Bool) (M : Nat) (E : Int) (n2 : Bool) (N : Nat) (F : Int) : bl (smV n1 M E n2 N F).natAbs ≤ max (bl M + (E - min E F).toNat) (bl N + (F - min E F).toNat) + 1 := by
  refine Nat.le_trans (bl_mono ?_) (bl_suM M E N F)
  unfold smV suM; cases n1 <;> cases n2 <;> simp [sI] <;> omega
theorem dy_bd {P E p m f : Nat} {ws : List Nat} {e : Int} (h : RealOk P E p m f ws e) : bl (dyM f (wv ws)) ≤ P ∧ -(E : Int) ≤ dyE f e ∧ dyE f e ≤ E := by
  by_cases hf : f = 1
  · subst hf
    obtain ⟨-, h2, -, h | h | ⟨-, h3, h4, h5, h6, h7⟩⟩ := h
    · omega
    · omega
    · exact ⟨Nat.le_trans h4 h2, h6, h7⟩
  · unfold dyM dyE; rw [if_neg hf, if_neg hf, bl_zero]; omega
/-- The reference's sum of two dyadic values. -/
theorem dSum_sm (n1 n2 : Bool) (a b : Value) (e1 e2 : Int) (x y : Nat) (w : World) (ha : NatV w a x) (hb : NatV w b y) (hx : bl x ≤ 1000000) (hy : bl y ≤ 1000000) (g1 : -1000000 ≤ e1 ∧ e1 ≤ 1000000) (g2 : -1000000 ≤ e2 ∧ e2 ≤ 1000000) :
    Calls Tryd.prog 7 #[.agg #[.bool n1, a, .int .i64 e1], .agg #[.bool n2, b, .int .i64 e2]] w fun e' w' => ∃ ng c M, e' = .returned (.agg #[.bool ng, c, .int .i64 (min e1 e2)]) ∧ NatV w' c M ∧ sI ng M = smV n1 x e1 n2 y e2 ∧ Below w.heap.size w w' := by
  have k1 := bl_two x (e1 - min e1 e2).toNat
  have k2 := bl_two y (e2 - min e1 e2).toNat
  refine (dSum n1 n2 a b e1 e2 (min e1 e2) x y (e1 - min e1 e2).toNat (e2 - min e1 e2).toNat w ha hb rfl (by omega) (by omega) (by omega) (by omega) (by omega) (by omega) (by omega)
    (nl_of_bl (by omega)) (nl_of_bl (by omega)) (by omega) (by omega) (nl_of_bl (by omega)) (nl_of_bl (by omega))).mono ?_
  rintro _ w' ⟨r, rfl, ng, M, ⟨c, rfl, hc⟩, hs, hb⟩
  exact ⟨ng, c, M, rfl, hc, hs, hb⟩
theorem sum_bl {ng : Bool} {M : Nat} {V : Int} (h : sI ng M = V) : bl M = bl V.natAbs := by rw [← h, natAbs_sI]
end Go.Proofs.YtgclooabjilniaaDoor

/-
A number of 64 bits as a float, at its place. No condition.
-/
namespace Go.Proofs.YtgclooabjilniaaDoor
open Go.RowKit

theorem topN_word {M : Nat} (h : 0 < M) (hM : M < 18446744073709551616) : topN M = [M * 2 ^ (64 - bl M)] := by
  have hb : bl M ≤ 64 := bl_le (k := 64) hM
  have hp := bl_pos h
  have hn : nw M = 1 := by have := nw_bl h; omega
  have hl : M * 2 ^ (64 - bl M) < 18446744073709551616 := by
    have h1 : M * 2 ^ (64 - bl M) < 2 ^ bl M * 2 ^ (64 - bl M) := Nat.mul_lt_mul_of_pos_right (lt_bl M) (Nat.two_pow_pos _)
    rw [← Nat.pow_add, show bl M + (64 - bl M) = 64 by omega] at h1
    exact h1
  unfold topN wdsN
  rw [hn, Nat.mul_one]
  simp only [List.range_succ, List.range_zero, List.nil_append, List.map_cons, List.map_nil]
  unfold wdg
  rw [Nat.pow_zero, Nat.div_one, Nat.mod_eq_of_lt hl]
theorem SIV.at {w : World} {B b m : Nat} {x : Int} (h : SIV w B b m x) (hB : B ≤ b) (h1 : -9223372036854775808 ≤ x) (h2 : x ≤ 9223372036854775807) : FloatAt w B b 64 m (fO x.natAbs) (decide (x < 0)) x.natAbs 0 := by
  rcases h with ⟨rfl, v, e, hF⟩ | ⟨h0, v, hF, ho⟩
  · exact ⟨hB, v, e, hF, fun hc => absurd hc (by decide)⟩
  · have hf : fO x.natAbs = 1 := if_neg (by omega)
    rw [hf]
    refine ⟨hB, v, _, hF, fun _ => ⟨by omega, ?_⟩⟩
    rw [topN_word (by omega) (by omega)]
    exact ho
theorem dy_fO (n : Bool) (M : Nat) : sI (dyN (fO M) n) (lo (dyM (fO M) M) (dyE (fO M) 0) 0) = sI n M := by
  by_cases h : M = 0
  · subst h; cases n <;> rfl
  · rw [show fO M = 1 from if_neg h]
    show sI n (lo M 0 0) = sI n M
    rw [lo_self]
end Go.Proofs.YtgclooabjilniaaDoor

/-
Floats: what Int64 answers, in plain numbers; the top word. No condition.
-/
namespace Go.Proofs.YtgclooabjilniaaDoor
open Go.RowKit

/-- M times 2 to X, cut to a whole number; whether it is one. -/
def trn (M : Nat) (X : Int) : Nat := M * 2 ^ X.toNat / 2 ^ (-X).toNat
def exT (M : Nat) (X : Int) : Bool := decide (M % 2 ^ (-X).toNat = 0)
/-- The number of 64 bits that is nearest towards zero, and the side. -/
def i64V (n : Bool) (M : Nat) (X : Int) : Int := if trn M X < 9223372036854775808 then sI n (trn M X) else if n then -9223372036854775808 else 9223372036854775807
def i64A (n : Bool) (M : Nat) (X : Int) : Int := if exT M X = true ∧ (trn M X < 9223372036854775808 ∨ n = true ∧ trn M X = 9223372036854775808) then 0 else if n then 1 else -1
theorem trn_shl (M : Nat) (E : Int) (i : Nat) : trn (M * 2 ^ i) (E - i) = trn M E := by
  unfold trn
  rcases Int.le_total 0 (E - i) with h | h
  · rw [show (-(E - (i : Int))).toNat = 0 by omega, show (-E).toNat = 0 by omega, Nat.pow_zero, Nat.div_one, Nat.div_one, Nat.mul_assoc, ← Nat.pow_add, show i + (E - (i : Int)).toNat = E.toNat by omega]
  · rw [show (E - (i : Int)).toNat = 0 by omega, Nat.pow_zero, Nat.mul_one]
    rcases Int.le_total 0 E with h1 | h1
    · obtain ⟨d, hd⟩ : ∃ d, d = (-(E - (i : Int))).toNat := ⟨_, rfl⟩
      rw [← hd, show (-E).toNat = 0 by omega, Nat.pow_zero, Nat.div_one, show i = E.toNat + d by omega, Nat.pow_add, ← Nat.mul_assoc]
      exact Nat.mul_div_cancel _ (Nat.two_pow_pos d)
    · rw [show (-(E - (i : Int))).toNat = (-E).toNat + i by omega, show E.toNat = 0 by omega, Nat.pow_zero, Nat.mul_one, Nat.pow_add]
      exact Nat.mul_div_mul_right _ _ (Nat.two_pow_pos i)
theorem trn_deq {M N : Nat} {E F : Int} (h : deq M E N F) : trn M E = trn N F := by
  obtain ⟨i, j, h1, h2⟩ := h
  rw [← trn_shl M E i, ← trn_shl N F j, h1, h2]
theorem trn_lt {M k : Nat} {E : Int} (h : (bl M : Int) + E ≤ k) : trn M E < 2 ^ k := by
  unfold trn
  have h1 := lt_bl M
  rcases Int.le_total 0 E with h2 | h2
  · rw [show (-E).toNat = 0 by omega, Nat.pow_zero, Nat.div_one]
    have h3 : M * 2 ^ E.toNat < 2 ^ bl M * 2 ^ E.toNat := Nat.mul_lt_mul_of_pos_right h1 (Nat.two_pow_pos _)
    rw [← Nat.pow_add] at h3
    exact Nat.lt_of_lt_of_le h3 (Nat.pow_le_pow_right (by decide) (by omega))
  · rw [show E.toNat = 0 by omega, Nat.pow_zero, Nat.mul_one]
    refine Nat.div_lt_of_lt_mul ?_
    rw [← Nat.pow_add]
    exact Nat.lt_of_lt_of_le h1 (Nat.pow_le_pow_right (by decide) (by omega))
theorem trn_ge {M k : Nat} {E : Int} (hM : 0 < M) (h : (k : Int) + 1 ≤ (bl M : Int) + E) : 2 ^ k ≤ trn M E := by
  unfold trn
  have h1 := bl_ge hM
  have h0 := bl_pos hM
  rcases Int.le_total 0 E with h2 | h2
  · rw [show (-E).toNat = 0 by omega, Nat.pow_zero, Nat.div_one]
    refine Nat.le_trans (Nat.pow_le_pow_right (by decide) (show k ≤ bl M - 1 + E.toNat by omega)) ?_
    rw [Nat.pow_add]
    exact Nat.mul_le_mul_right _ h1
  · rw [show E.toNat = 0 by omega, Nat.pow_zero, Nat.mul_one, Nat.le_div_iff_mul_le (Nat.two_pow_pos _), ← Nat.pow_add]
    exact Nat.le_trans (Nat.pow_le_pow_right (by decide) (by omega)) h1
theorem exT_tz {M : Nat} {X : Int} (hM : 0 < M) : exT M X = decide (0 ≤ X + (tz M : Nat)) := by
  unfold exT
  by_cases h : 0 ≤ X + (tz M : Nat)
  · rw [decide_eq_true h, decide_eq_true (tz_low hM (by omega))]
  · rw [decide_eq_false h, decide_eq_false (fun hc => h (by have := tz_dvd hM hc; omega))]
theorem exT_deq {M N : Nat} {E F : Int} (hM : 0 < M) (h : deq M E N F) : exT M E = exT N F := by
  rw [exT_tz hM, exT_tz (h.pos hM), (h.od hM).2]
theorem i64_deq {n : Bool} {M N : Nat} {E F : Int} (hM : 0 < M) (h : deq M E N F) : i64V n M E = i64V n N F ∧ i64A n M E = i64A n N F := by
  unfold i64V i64A; rw [trn_deq h, exT_deq hM h]; exact ⟨rfl, rfl⟩
theorem i64_small {n : Bool} {M : Nat} {X : Int} (h : (bl M : Int) + X ≤ 63) : i64V n M X = sI n (trn M X) ∧ i64A n M X = accI n (exT M X) := by
  have h1 : trn M X < 2 ^ 63 := trn_lt (k := 63) (by omega)
  have h2 : trn M X < 9223372036854775808 := h1
  unfold i64V i64A accI
  rw [if_pos h2]
  refine ⟨rfl, ?_⟩
  by_cases h3 : exT M X = true
  · rw [if_pos ⟨h3, .inl h2⟩, if_pos h3]
  · rw [if_neg (fun hc => h3 hc.1), if_neg h3]
theorem i64_big {n : Bool} {M : Nat} {X : Int} (hM : 0 < M) (h : 64 ≤ (bl M : Int) + X) :
    i64V n M X = (if n then -9223372036854775808 else 9223372036854775807) ∧ i64A n M X = (if n = true ∧ (bl M : Int) + X = 64 ∧ bl (od M) = 1 then 0 else if n then 1 else -1) := by
  have h1 : 2 ^ 63 ≤ trn M X := trn_ge (k := 63) hM (by omega)
  have h2 : ¬ trn M X < 9223372036854775808 := by
    have : (9223372036854775808 : Nat) ≤ trn M X := h1
    omega
  have ho := od_tz hM
  have hbo := bl_od hM
  have key : (exT M X = true ∧ (trn M X < 9223372036854775808 ∨ n = true ∧ trn M X = 9223372036854775808)) ↔ (n = true ∧ (bl M : Int) + X = 64 ∧ bl (od M) = 1) := by
    constructor
    · rintro ⟨k1, k2⟩
      rcases k2 with k2 | ⟨k2, k3⟩
      · exact absurd k2 h2
      · rw [exT_tz hM] at k1
        have k1' := of_decide_eq_true k1
        obtain ⟨s, hs⟩ := Int.eq_ofNat_of_zero_le k1'
        have k4 : trn M X = od M * 2 ^ s := by
          rw [trn_deq (od_deq hM X), hs]
          unfold trn
          rw [show (-(s : Int)).toNat = 0 by omega, Nat.pow_zero, Nat.div_one]
          simp
        have k5 : od M * 2 ^ s = 1 * 2 ^ 63 := by rw [← k4, k3]
        obtain ⟨k6, k7⟩ := odd_two ho.2 (by decide) k5
        have k8 : bl (od M) = 1 := by rw [k7]; decide
        exact ⟨k2, by omega, k8⟩
    · rintro ⟨k1, k2, k3⟩
      have k4 : 0 ≤ X + (tz M : Nat) := by omega
      refine ⟨by rw [exT_tz hM]; exact decide_eq_true k4, .inr ⟨k1, ?_⟩⟩
      have k5 : X + (tz M : Nat) = ((63 : Nat) : Int) := by omega
      have k6 : od M = 1 := by
        have := lt_bl (od M); rw [k3] at this
        have := od_pos hM
        omega
      rw [trn_deq (od_deq hM X), k5, k6]
      decide
  unfold i64V i64A
  rw [if_neg h2]
  refine ⟨rfl, ?_⟩
  by_cases hc : n = true ∧ (bl M : Int) + X = 64 ∧ bl (od M) = 1
  · rw [if_pos (key.2 hc), if_pos hc]
  · rw [if_neg (fun h => hc (key.1 h)), if_neg hc]
theorem i64_zero (n : Bool) (X : Int) : i64V n 0 X = 0 ∧ i64A n 0 X = 0 := by
  have h1 : trn 0 X = 0 := by unfold trn; rw [Nat.zero_mul]; exact Nat.zero_div _
  have h2 : exT 0 X = true := by unfold exT; rw [Nat.zero_mod]; rfl
  unfold i64V i64A
  rw [h1, h2, if_pos (by decide), if_pos ⟨rfl, .inl (by decide)⟩]
  exact ⟨by cases n <;> rfl, rfl⟩
/-- The top word. -/
theorem wv_top {ws : List Nat} (h : ∀ d ∈ ws, d < 18446744073709551616) (h0 : 0 < ws.length) : ws.getD (ws.length - 1) 0 = wv ws / 2 ^ (64 * (ws.length - 1)) := by
  have h1 := wv_lt h
  rw [← wv_dig h]
  unfold wdg
  have e1 : (18446744073709551616 : Nat) ^ (ws.length - 1) = 2 ^ (64 * (ws.length - 1)) := by rw [Nat.pow_mul]
  rw [e1, Nat.mod_eq_of_lt]
  refine Nat.div_lt_of_lt_mul ?_
  have e2 : (18446744073709551616 : Nat) ^ ws.length = 2 ^ (64 * (ws.length - 1)) * 18446744073709551616 := by
    rw [← e1, ← Nat.pow_succ]; congr 1; omega
  rw [← e2]; exact h1
set_option maxRecDepth 100000 in
theorem msb64_any (v : Value) (ws : List Nat) (w : World) (hv : RW w v ws) (h0 : 0 < ws.length) (hl : ws.length ≤ 1000000) :
    Calls Tryd.prog 35 #[v] w fun e' w' => e' = .returned (.int .u64 (ws.getD (ws.length - 1) 0 : Nat)) ∧ w = w' := by
  have hS := hv.isS
  have hL := hv.len
  have hc := hv.cell (ws.length - 1) (by omega)
  obtain ⟨d, hd⟩ : ∃ d, d = ws.getD (ws.length - 1) 0 := ⟨_, rfl⟩
  rw [← hd] at hc ⊢
  obtain ⟨k, hk⟩ : ∃ k, ws.length = k + 1 := ⟨ws.length - 1, by omega⟩
  rw [hk] at hL hl
  rw [hk, Nat.add_sub_cancel] at hc
  have e1 : ((k + 1 : Nat) : Int) - 1 = (k : Int) := by omega
  clear hv hd h0 hk
  go_enter Tryd.func35, Tryd.ntmps35
  go_wp2
  go_ret
  exact ⟨rfl, rfl⟩
end Go.Proofs.YtgclooabjilniaaDoor

/-
Floats: Int64. No condition.
-/
namespace Go.Proofs.YtgclooabjilniaaDoor
open Go.RowKit

set_option maxRecDepth 100000 in
set_option maxHeartbeats 3200000 in
theorem int64_one (c p m : Nat) (a e : Int) (neg : Bool) (v : Value) (ws : List Nat) (w : World) (h : FltR w c p m a 1 neg v e) (hv : RW w v ws) (hg : Good ws p) (hT : TabW w) (he1 : -1000000000 ≤ e) (he2 : e ≤ 1000000000) :
    Calls Tryd.prog 15 #[.pointer (some ⟨c, 0, none⟩)] w fun e' w' => e' = .returned (.tuple #[.int .i64 (i64V neg (wv ws) (e - 64 * (ws.length : Int))), .int .i8 (i64A neg (wv ws) (e - 64 * (ws.length : Int)))]) ∧ ∃ n, w' = w.drewN n := by
  have hS := hv.isS
  have h0 := hg.posv
  have hb := hg.bl
  have hod := bl_od h0
  have htz := tz_le h0
  obtain ⟨X, hX⟩ : ∃ X : Int, X = e - 64 * (ws.length : Int) := ⟨_, rfl⟩
  rw [← hX]
  obtain ⟨q, hq⟩ : ∃ q, q = bl (od (wv ws)) := ⟨_, rfl⟩
  rw [← hq] at hod
  have hqb : q ≤ 64000000 := by have := hg.2.1; omega
  have HMP := Lib.hid (fun (k : Nat) => minPrec_one c p m a e neg v ws (w.drewN k) (h.drewN k) (hv.below (undrewN' (Below.refl _ _))) h0 hg.2.1 hg.bl (hT.drewN k))
  rw [← hq] at HMP
  have HMS : Hid (∀ k : Nat, Calls Tryd.prog 35 #[v] (w.drewN k) fun e' w' => e' = .returned (.int .u64 (ws.getD (ws.length - 1) 0 : Nat)) ∧ w' = w.drewN k) := Lib.hid (fun k => (msb64_any v ws (w.drewN k) (hv.below (undrewN' (Below.refl _ _))) hg.1 hg.2.1).mono (fun _ _ h => ⟨h.1, h.2.symm⟩))
  have htop := wv_top hg.2.2.1 hg.1
  have htl := hg.2.2.1
  obtain ⟨t, ht⟩ : ∃ t, t = ws.getD (ws.length - 1) 0 := ⟨_, rfl⟩
  have htb : t < 18446744073709551616 := by
    rw [ht, List.getD_eq_getElem?_getD]
    have hl : ws.length - 1 < ws.length := by have := hg.1; omega
    rw [List.getElem?_eq_getElem hl]
    exact htl _ (List.getElem_mem hl)
  rw [← ht] at HMS htop
  have hlen := hg.1
  obtain ⟨c0, c1, c2, c3', c4, c5, c6⟩ := h.cells
  have c3 : w.cell? ⟨c, 3, none⟩ = some (.int .u8 1) := c3'
  obtain ⟨V, hV⟩ : ∃ V, V = i64V neg (wv ws) X := ⟨_, rfl⟩
  obtain ⟨A, hA⟩ : ∃ A, A = i64A neg (wv ws) X := ⟨_, rfl⟩
  rw [← hV, ← hA]
  have hexT := exT_tz (X := X) h0
  obtain ⟨ac, hac⟩ : ∃ ac : Int, ac = (if neg then 1 else -1) := ⟨_, rfl⟩
  have hacb : -1 ≤ ac ∧ ac ≤ 1 := by rw [hac]; split <;> omega
  have HAC := Lib.hid hac
  by_cases h1 : e ≤ 0
  · have t1 : decide (e ≤ 0) = true := decide_eq_true h1
    obtain ⟨k1, k2⟩ := i64_small (n := neg) (M := wv ws) (X := X) (by omega)
    have HV0 : Hid (V = 0) := Lib.hid (by
      rw [hV, k1]
      have := trn_lt (M := wv ws) (E := X) (k := 0) (by omega)
      rw [show trn (wv ws) X = 0 by omega, show sI neg 0 = 0 by cases neg <;> rfl])
    have HA0 : Hid (A = ac) := Lib.hid (by
      rw [hA, k2, hexT, decide_eq_false (by omega), hac]; rfl)
    clear h hv hg hT h0 hb hod htz hX hq htop htl ht hlen c3' hV hA hexT hac k1 k2 h1
    go_enter Tryd.func15, Tryd.ntmps15
    go_wp2_with fail
    refine (makeAcc_any neg w).mono ?_
    rintro _ _ ⟨rfl, rfl⟩
    rw [← HAC.out]
    go_wp2
    go_ret2
    rw [HV0.out, HA0.out]
    exact ⟨rfl, 0, rfl⟩
  have t1 : decide (e ≤ 0) = false := decide_eq_false h1
  by_cases h2 : e ≤ 63
  · obtain ⟨E, rfl⟩ := Int.eq_ofNat_of_zero_le (show 0 ≤ e by omega)
    have hE0 : 0 < E := by omega
    have hE63 : E ≤ 63 := by omega
    have t0 : decide (E = 0) = false := decide_eq_false (by omega)
    have t2 : decide ((E : Int) ≤ 63) = true := decide_eq_true h2
    have t2' : decide (E ≤ 63) = true := decide_eq_true hE63
    obtain ⟨k1, k2⟩ := i64_small (n := neg) (M := wv ws) (X := X) (by omega)
    obtain ⟨s, hs⟩ : ∃ s, s = 64 - E := ⟨_, rfl⟩
    have hs64 : s ≤ 63 := by omega
    have hsE : (64 : Int) - (E : Int) = (s : Int) := by omega
    obtain ⟨D, hD⟩ : ∃ D, D = 2 ^ s := ⟨_, rfl⟩
    have hD0 : 0 < D := by rw [hD]; exact Nat.two_pow_pos _
    have hS2 : (2 : Int) ^ s = (D : Int) := by rw [hD]; simp
    obtain ⟨i, hi⟩ : ∃ i, i = t / D := ⟨_, rfl⟩
    have hit : i = trn (wv ws) X := by
      rw [hi, htop, hD, Nat.div_div_eq_div_mul, ← Nat.pow_add]
      unfold trn
      rw [show X.toNat = 0 by omega, Nat.pow_zero, Nat.mul_one, show 64 * (ws.length - 1) + s = (-X).toNat by omega]
    have hib : i < 9223372036854775808 := by
      rw [hit]; exact trn_lt (k := 63) (by omega)
    have hdv : (t : Int) / (D : Int) = (i : Int) := by rw [hi]; simp
    have HV0 : Hid (V = sI neg i) := Lib.hid (by rw [hV, k1, hit])
    by_cases h3 : q ≤ E
    · have t3 : decide (q ≤ E) = true := decide_eq_true h3
      have t3' : decide ((q : Int) ≤ (E : Int)) = true := decide_eq_true (by omega)
      have HA0 : Hid (A = 0) := Lib.hid (by rw [hA, k2, hexT, decide_eq_true (by omega)]; rfl)
      clear h hv hg hT h0 hb hod htz hX hq htop htl ht hlen c3' hV hA hexT hac k1 k2 h1 h2 hs hD hi hit h3 HAC
      cases neg
      · have HV1 : Hid (V = (i : Int)) := Lib.hid (by rw [HV0.out]; rfl)
        clear HV0
        go_enter Tryd.func15, Tryd.ntmps15
        go_wp2_with fail
        refine (makeAcc_any false w).mono ?_
        rintro _ _ ⟨rfl, rfl⟩
        go_wp2_with fail
        go_quiet ((go_at_call 35; exact Calls.quiet_of_same (HMS.out _)))
        go_wp2_with fail
        go_quiet ((go_at_call 36; with_reducible refine (HMP.out _).mono ?_; rintro _ _ ⟨rfl, n, rfl⟩; exact ⟨rfl, _, by rw [World.drewN_drewN, Nat.add_assoc]⟩))
        go_wp2
        go_ret2
        rw [HV1.out, HA0.out]
        exact ⟨rfl, _, by rw [World.drewN_drewN]⟩
      · have HV1 : Hid (V = -(i : Int)) := Lib.hid (by rw [HV0.out]; rfl)
        clear HV0
        go_enter Tryd.func15, Tryd.ntmps15
        go_wp2_with fail
        refine (makeAcc_any true w).mono ?_
        rintro _ _ ⟨rfl, rfl⟩
        go_wp2_with fail
        go_quiet ((go_at_call 35; exact Calls.quiet_of_same (HMS.out _)))
        go_wp2_with fail
        go_quiet ((go_at_call 36; with_reducible refine (HMP.out _).mono ?_; rintro _ _ ⟨rfl, n, rfl⟩; exact ⟨rfl, _, by rw [World.drewN_drewN, Nat.add_assoc]⟩))
        go_wp2
        go_ret2
        rw [HV1.out, HA0.out]
        exact ⟨rfl, _, by rw [World.drewN_drewN]⟩
    · have t3 : decide (q ≤ E) = false := decide_eq_false h3
      have t3' : decide ((q : Int) ≤ (E : Int)) = false := decide_eq_false (by omega)
      have HA0 : Hid (A = ac) := Lib.hid (by rw [hA, k2, hexT, decide_eq_false (by omega), hac]; rfl)
      clear h hv hg hT h0 hb hod htz hX hq htop htl ht hlen c3' hV hA hexT hac k1 k2 h1 h2 hs hD hi hit h3
      cases neg
      · have HV1 : Hid (V = (i : Int)) := Lib.hid (by rw [HV0.out]; rfl)
        clear HV0
        go_enter Tryd.func15, Tryd.ntmps15
        go_wp2_with fail
        refine (makeAcc_any false w).mono ?_
        rintro _ _ ⟨rfl, rfl⟩
        go_wp2_with fail
        go_quiet ((go_at_call 35; exact Calls.quiet_of_same (HMS.out _)))
        go_wp2_with fail
        go_quiet ((go_at_call 36; with_reducible refine (HMP.out _).mono ?_; rintro _ _ ⟨rfl, n, rfl⟩; exact ⟨rfl, _, by rw [World.drewN_drewN, Nat.add_assoc]⟩))
        go_wp2
        go_ret2
        rw [HV1.out, HA0.out, HAC.out]
        exact ⟨rfl, _, by rw [World.drewN_drewN]⟩
      · have HV1 : Hid (V = -(i : Int)) := Lib.hid (by rw [HV0.out]; rfl)
        clear HV0
        go_enter Tryd.func15, Tryd.ntmps15
        go_wp2_with fail
        refine (makeAcc_any true w).mono ?_
        rintro _ _ ⟨rfl, rfl⟩
        go_wp2_with fail
        go_quiet ((go_at_call 35; exact Calls.quiet_of_same (HMS.out _)))
        go_wp2_with fail
        go_quiet ((go_at_call 36; with_reducible refine (HMP.out _).mono ?_; rintro _ _ ⟨rfl, n, rfl⟩; exact ⟨rfl, _, by rw [World.drewN_drewN, Nat.add_assoc]⟩))
        go_wp2
        go_ret2
        rw [HV1.out, HA0.out, HAC.out]
        exact ⟨rfl, _, by rw [World.drewN_drewN]⟩
  have t2 : decide (e ≤ 63) = false := decide_eq_false h2
  obtain ⟨k1, k2⟩ := i64_big (n := neg) (M := wv ws) (X := X) h0 (by omega)
  cases neg
  · have HV0 : Hid (V = 9223372036854775807) := Lib.hid (by rw [hV, k1]; rfl)
    have HA0 : Hid (A = -1) := Lib.hid (by rw [hA, k2, if_neg (fun h => absurd h.1 (by decide))]; rfl)
    clear h hv hg hT h0 hb hod htz hX hq htop htl ht hlen c3' hV hA hexT hac k1 k2 h1 h2
    go_enter Tryd.func15, Tryd.ntmps15
    go_wp2_with fail
    refine (makeAcc_any false w).mono ?_
    rintro _ _ ⟨rfl, rfl⟩
    go_wp2
    go_ret2
    rw [HV0.out, HA0.out]
    exact ⟨rfl, 0, rfl⟩
  · have HV0 : Hid (V = -9223372036854775808) := Lib.hid (by rw [hV, k1]; rfl)
    by_cases h3 : e = 64
    · have t3 : (e == 64) = true := by rw [h3]; rfl
      by_cases h4 : q = 1
      · have t4 : ((q : Int) == 1) = true := by rw [h4]; rfl
        have HA0 : Hid (A = 0) := Lib.hid (by rw [hA, k2, if_pos ⟨rfl, by omega, by rw [← hq, h4]⟩])
        clear h hv hg hT h0 hb hod htz hX hq htop htl ht hlen c3' hV hA hexT hac k1 k2 h1 h2 h3 h4
        go_enter Tryd.func15, Tryd.ntmps15
        go_wp2_with fail
        refine (makeAcc_any true w).mono ?_
        rintro _ _ ⟨rfl, rfl⟩
        go_wp2_with fail
        refine (HMP.out 0).mono ?_
        rintro _ _ ⟨rfl, n1, rfl⟩
        go_wp2
        go_ret2
        rw [HV0.out, HA0.out]
        exact ⟨rfl, n1, rfl⟩
      · have t4 : ((q : Int) == 1) = false := by rw [beq_eq_false_iff_ne]; omega
        have HA0 : Hid (A = 1) := Lib.hid (by rw [hA, k2, if_neg (fun h => h4 (by rw [hq]; exact h.2.2))]; rfl)
        clear h hv hg hT h0 hb hod htz hX hq htop htl ht hlen c3' hV hA hexT hac k1 k2 h1 h2 h3 h4
        go_enter Tryd.func15, Tryd.ntmps15
        go_wp2_with fail
        refine (makeAcc_any true w).mono ?_
        rintro _ _ ⟨rfl, rfl⟩
        go_wp2_with fail
        refine (HMP.out 0).mono ?_
        rintro _ _ ⟨rfl, n1, rfl⟩
        go_wp2
        go_ret2
        rw [HV0.out, HA0.out]
        exact ⟨rfl, n1, rfl⟩
    · have t3 : (e == 64) = false := by rw [beq_eq_false_iff_ne]; omega
      have HA0 : Hid (A = 1) := Lib.hid (by rw [hA, k2, if_neg (fun h => h3 (by have := h.2.1; omega))]; rfl)
      clear h hv hg hT h0 hb hod htz hX hq htop htl ht hlen c3' hV hA hexT hac k1 k2 h1 h2 h3
      go_enter Tryd.func15, Tryd.ntmps15
      go_wp2_with fail
      refine (makeAcc_any true w).mono ?_
      rintro _ _ ⟨rfl, rfl⟩
      go_wp2
      go_ret2
      rw [HV0.out, HA0.out]
      exact ⟨rfl, 0, rfl⟩
set_option maxRecDepth 100000 in
theorem int64_zero (c p m : Nat) (a e : Int) (neg : Bool) (v : Value) (w : World) (h : FltR w c p m a 0 neg v e) :
    Calls Tryd.prog 15 #[.pointer (some ⟨c, 0, none⟩)] w fun e' w' => e' = .returned (.tuple #[.int .i64 0, .int .i8 0]) ∧ ∃ n, w' = w.drewN n := by
  obtain ⟨c0, c1, c2, c3', c4, c5, c6⟩ := h.cells
  have c3 : w.cell? ⟨c, 3, none⟩ = some (.int .u8 0) := c3'
  clear h c3'
  go_enter Tryd.func15, Tryd.ntmps15
  go_wp2
  go_ret2
  exact ⟨rfl, 0, rfl⟩
/-- Int64 of a Float's value. -/
theorem int64_val (c Bx p m f : Nat) (a : Int) (neg : Bool) (M : Nat) (X : Int) (w : World) (hx : FVal w Bx c p m a f neg M X) (hf : f ≤ 1) (hX : f = 1 → -900000000 ≤ X ∧ X + bl M ≤ 900000000) (hT : TabW w) :
    Calls Tryd.prog 15 #[.pointer (some ⟨c, 0, none⟩)] w fun e' w' => e' = .returned (.tuple #[.int .i64 (i64V neg (dyM f M) (dyE f X)), .int .i8 (i64A neg (dyM f M) (dyE f X))]) ∧ ∃ n, w' = w.drewN n := by
  obtain ⟨v, e, h1, h2⟩ := hx
  rcases (by omega : f = 0 ∨ f = 1) with rfl | rfl
  · rw [show dyM 0 M = 0 from rfl, (i64_zero neg _).1, (i64_zero neg _).2]
    exact int64_zero c p m a e neg v w h1
  · obtain ⟨hM, ws, ho, hg, hd⟩ := h2 rfl
    have h0 := hd.symm.pos hM
    have hb := hd.bl h0
    rw [hg.bl] at hb
    have := hX rfl
    obtain ⟨k1, k2⟩ := i64_deq (n := neg) h0 hd
    rw [show dyM 1 M = M from rfl, show dyE 1 X = X from rfl, ← k1, ← k2]
    exact int64_one c p m a e neg v ws w h1 (ho.rw' hg.2.2.1) hg hT (by omega) (by omega)
end Go.Proofs.YtgclooabjilniaaDoor

/-
The statement on the order of two floats. No condition.
-/
namespace Go.Proofs.YtgclooabjilniaaDoor
open Go.RowKit

/-- Order of the values of two reals. -/
theorem order_real (P E _f1 _f2 : Nat) (n1 n2 : Bool) (a b : Value) (e1 e2 : Int) (x y : Nat) (w : World) (ha : NatV w a x) (hb : NatV w b y)
    (hx : bl x ≤ P) (g1 : -(E : Int) ≤ e1) (g2 : e1 ≤ E) (hy : bl y ≤ P) (g3 : -(E : Int) ≤ e2) (g4 : e2 ≤ E) (hP : P ≤ 64000) (hE : E ≤ 100000000) :
    Calls Tryd.prog 25 #[.agg #[.bool n1, a, .int .i64 e1], .agg #[.bool n2, b, .int .i64 e2]] w fun e' w' =>
      e' = .returned (.int .i64 (cmpI (sI n1 (x * 2 ^ (e1 - min e1 e2).toNat)) (sI n2 (y * 2 ^ (e2 - min e1 e2).toNat)))) ∧ Below w.heap.size w w' := by
  have k1 := bl_two x (e1 - min e1 e2).toNat
  have k2 := bl_two y (e2 - min e1 e2).toNat
  exact dOrder n1 n2 a b e1 e2 (min e1 e2) x y (e1 - min e1 e2).toNat (e2 - min e1 e2).toNat w ha hb rfl (by omega) (by omega) (by omega) (by omega) (by omega) (by omega) (by omega)
    (nl_of_bl (by omega)) (nl_of_bl (by omega)) (by omega) (by omega) (nl_of_bl (by omega)) (nl_of_bl (by omega))
/-- What is asked of Cmp's answer. -/
def wantC (f1 : Nat) (n1 : Bool) (M1 : Nat) (e1 : Int) (f2 : Nat) (n2 : Bool) (M2 : Nat) (e2 : Int) : Int :=
  cmpI (sI (dyN f1 n1) (dyM f1 M1 * 2 ^ (dyE f1 e1 - min (dyE f1 e1) (dyE f2 e2)).toNat)) (sI (dyN f2 n2) (dyM f2 M2 * 2 ^ (dyE f2 e2 - min (dyE f1 e1) (dyE f2 e2)).toNat))
theorem wantC_eq {f1 f2 M1 M2 : Nat} {n1 n2 : Bool} {e1 e2 : Int} (hf1 : f1 ≤ 1) (hf2 : f2 ≤ 1) (h1 : f1 = 1 → 0 < M1) (h2 : f2 = 1 → 0 < M2) :
    cmpRV f1 n1 M1 e1 f2 n2 M2 e2 = wantC f1 n1 M1 e1 f2 n2 M2 e2 := by
  rw [cmpRV_law (a := (dyE f1 e1 - min (dyE f1 e1) (dyE f2 e2)).toNat) (b := (dyE f2 e2 - min (dyE f1 e1) (dyE f2 e2)).toNat) (e := min (dyE f1 e1) (dyE f2 e2)) hf1 hf2
    (fun h => ⟨h1 h, by subst h; simp only [dyE, if_true]; split <;> omega⟩) (fun h => ⟨h2 h, by subst h; simp only [dyE, if_true]; split <;> omega⟩)]
  unfold wantC
  rcases (by omega : f1 = 0 ∨ f1 = 1) with rfl | rfl <;> rcases (by omega : f2 = 0 ∨ f2 = 1) with rfl | rfl <;> simp [dyN, dyM, dyE, sI]
theorem cmpRV_lt {f1 f2 M1 M2 : Nat} {n1 n2 : Bool} {e1 e2 : Int} (hf1 : f1 ≤ 2) (hf2 : f2 ≤ 2) (h : endV f1 n1 < endV f2 n2) : cmpRV f1 n1 M1 e1 f2 n2 M2 e2 = -1 := by
  unfold cmpRV cmpFV
  rw [if_pos]
  unfold endV at h; unfold ordV
  split at h <;> split at h <;> cases n1 <;> cases n2 <;> simp_all <;> omega
theorem cmpRV_gt {f1 f2 M1 M2 : Nat} {n1 n2 : Bool} {e1 e2 : Int} (hf1 : f1 ≤ 2) (hf2 : f2 ≤ 2) (h : endV f2 n2 < endV f1 n1) : cmpRV f1 n1 M1 e1 f2 n2 M2 e2 = 1 := by
  unfold cmpRV cmpFV
  have : ordV f2 n2 < ordV f1 n1 := by
    unfold endV at h; unfold ordV
    split at h <;> split at h <;> cases n1 <;> cases n2 <;> simp_all <;> omega
  rw [if_neg (by omega), if_pos this]
theorem cmpRV_eq {f1 f2 M1 M2 : Nat} {n1 n2 : Bool} {e1 e2 : Int} (hf1 : f1 ≤ 2) (hf2 : f2 ≤ 2) (h : endV f1 n1 = endV f2 n2) (h0 : endV f1 n1 ≠ 0) : cmpRV f1 n1 M1 e1 f2 n2 M2 e2 = 0 := by
  have h2 : f1 = 2 := by
    refine Classical.byContradiction fun hc => h0 ?_
    unfold endV; rw [if_neg hc]
  have h3 : f2 = 2 := by
    refine Classical.byContradiction fun hc => h0 ?_
    rw [h]; unfold endV; rw [if_neg hc]
  subst h2; subst h3
  have : n1 = n2 := by cases n1 <;> cases n2 <;> simp_all [endV]
  subst this
  unfold cmpRV cmpFV
  cases n1 <;> simp [ordV]
theorem end0 {f : Nat} {n : Bool} (hf : f ≤ 2) (h : endV f n = 0) : f ≤ 1 := by
  refine Classical.byContradiction fun hc => ?_
  have : f = 2 := by omega
  subst this
  cases n <;> simp [endV] at h
end Go.Proofs.YtgclooabjilniaaDoor

/-
The thin package's SetInt64, SetUint64; spec.Whole. No condition.
-/
namespace Go.Proofs.YtgclooabjilniaaDoor
open Go.RowKit

theorem rQ0 (p m : Nat) (neg : Bool) : rk p 0 = 0 ∧ rQ p m neg 0 0 = 0 ∧ rA p m neg 0 0 = 0 := rQ_fits neg (by rw [bl_zero]; exact Nat.zero_le _)
theorem sbA_bd (p m : Nat) (neg : Bool) (M : Nat) : -1 ≤ sbA p m neg M ∧ sbA p m neg M ≤ 1 := by
  unfold sbA rA; repeat' split
  all_goals omega
theorem sbA_eq (p m : Nat) (neg : Bool) (M : Nat) : sbA p m neg M = rA p m neg 0 M := by
  unfold sbA; split
  · rename_i h; subst h; exact (rQ0 _ _ _).2.2.symm
  · rfl
theorem fO_le (M : Nat) : fO M ≤ 2 := by unfold fO; split <;> omega
theorem told_fO {w : World} {z : Value} {p m M : Nat} {n : Bool} {e : Int} (hz : RealV w z p m (fO M) n (rQ p m n 0 M) (e + (rk p M : Nat))) (hp : 0 < p) : Told w z p m n (rQ p m n 0 M) (e + (rk p M : Nat)) := by
  by_cases h : M = 0
  · subst h
    rw [(rQ0 p m n).2.1]
    exact hz.told0
  · rw [show fO M = 1 by unfold fO; rw [if_neg h]] at hz
    exact hz.told (rQ_pos n 0 hp (Nat.pos_of_ne_zero h)) (deq.refl _ _)
theorem RealV.formW {w : World} {z : Value} {p m f M : Nat} {neg : Bool} {X : Int} (h : RealV w z p m f neg M X) : ∃ (v : Value) (E : Int), z = .agg #[.int .u64 p, .int .i64 m, .int .i64 f, .bool neg, v, .int .i64 E] ∧ IsS v := by
  obtain ⟨v, E, zs, B, h1, h2, -⟩ := h
  exact ⟨v, E, h1, h2.isS⟩
theorem rQ_rng (p m M : Nat) (neg : Bool) (h : bl M ≤ 1000000) : -900000000 ≤ 0 + ((rk p M : Nat) : Int) ∧ 0 + ((rk p M : Nat) : Int) + bl (rQ p m neg 0 M) ≤ 900000000 := by
  have h1 := rk_le p M
  have h2 := bl_rQ p m neg 0 M
  omega
theorem rw_one {w : World} {n : Nat} (hn : n < 18446744073709551616) : RW (w.alloc (.cells #[.int .u64 (n : Int)] 22)) (.slice (some ⟨w.heap.size, 0, none⟩) 1 1) [n] := by
  have h := row_chain11 (w := w) (a := #[.int .u64 (n : Int)]) (A := 22)
  have hc := (row_at (i := 0) h rfl).1
  refine ⟨⟨⟨fun _ => rfl, Nat.le_refl _⟩, rfl, fun i hi => ?_⟩, fun d hd => ?_⟩
  · rw [ints_length] at hi
    obtain rfl : i = 0 := by simp at hi; omega
    exact hc
  · rw [List.mem_singleton.1 hd]; exact hn
set_option maxRecDepth 100000 in
set_option maxHeartbeats 1600000 in
theorem whole_any (x : Int) (w : World) (hx1 : -9223372036854775808 ≤ x) (hx2 : x ≤ 9223372036854775807) :
    Calls Tryd.prog 8 #[.int .i64 x] w fun e' w' => ∃ r, e' = .returned r ∧ DyV w' r (decide (x < 0)) x.natAbs 0 ∧ Below w.heap.size w w' := by
  have hab := (Below.refl w.heap.size w).alloc (Nat.le_refl _) (.cells #[.bool false, .slice none 0 0, .int .i64 0] 28)
  obtain ⟨X, hX⟩ : ∃ X, X = w.alloc (.cells #[.bool false, .slice none 0 0, .int .i64 0] 28) := ⟨_, rfl⟩
  have hr2 : X.heap[w.heap.size]? = some (.cells #[.bool false, .slice none 0 0, .int .i64 0] 28 (0, 0)) := by
    rw [hX]; exact row_chain11
  rw [← hX] at hab
  have HR2 := Lib.hid hr2
  have HB := Lib.hid hab
  have hXs := hab.size
  obtain ⟨n, hn⟩ : ∃ n, n = x.natAbs := ⟨_, rfl⟩
  rw [← hn]
  have hnb : n < 18446744073709551616 := by omega
  have HO := Lib.hid (show Calls Tryd.prog 23 #[.slice (some ⟨X.heap.size, 0, none⟩) 1 1] (X.alloc (.cells #[.int .u64 (n : Int)] 22)) fun e' w' => ∃ r, e' = .returned r ∧ NatV w' r n ∧ Below X.heap.size X w' from by
    refine (spOf (.slice (some ⟨X.heap.size, 0, none⟩) 1 1) [n] _ (rw_one hnb) (by simp)).mono ?_
    rintro _ w' ⟨r, rfl, h1, h2⟩
    rw [wv_one] at h1
    exact ⟨r, rfl, h1, bthen (fbone _) h2⟩)
  clear hr2 hab
  go_enter Tryd.func8, Tryd.ntmps8
  go_upto_region 1 with fail
  rw [← hX]
  clear hX
  rcases Int.lt_or_le x 0 with hs | hs
  · have t : decide (x < 0) = true := decide_eq_true hs
    have hw : IntKind.u64.wrap (-IntKind.u64.wrap x) = (n : Int) := by rw [IntKind.wrap_u64, IntKind.wrap_u64]; omega
    clear hs hn
    go_wp2_with fail
    try rw [hw]
    refine HO.out.mono ?_
    rintro _ w3 ⟨d, rfl, hd, hb3⟩
    have hSd := hd.isS
    have hvr := keep_row hb3 HR2.out
    obtain ⟨hv0, hv1, hv2, hf0, hf1, hf2⟩ := row3 hvr
    go_wp2_with fail
    obtain ⟨hx0, hx1, hx2, -, -, -⟩ := row3 (row3_set (x := .bool true) (y := d) (z := .int .i64 0) hvr)
    have hn := natv_dyad (x := .bool true) (y := d) (z := .int .i64 0) IsS.nil hd hvr
    have hbY := bset (i := 2) (u := .int .i64 0) (bset (i := 1) (u := d) (bset (i := 0) (u := .bool true) (HB.out.trans (hb3.mono hXs)) (Nat.le_refl _)) (Nat.le_refl _)) (Nat.le_refl _)
    refine bodyPost_ret (v := .agg #[.bool true, d, .int .i64 0]) ?_ rfl ⟨_, rfl, ⟨_, (by rw [t]), hn⟩, hbY⟩
    simp [results, Tryd.results8, go_sem, hx0, hx1, hx2]
  · have t : decide (x < 0) = false := decide_eq_false (by omega)
    have hw : x = (n : Int) := by omega
    clear hs hn
    go_wp2_with fail
    try rw [hw]
    refine HO.out.mono ?_
    rintro _ w3 ⟨d, rfl, hd, hb3⟩
    have hSd := hd.isS
    have hvr := keep_row hb3 HR2.out
    obtain ⟨hv0, hv1, hv2, hf0, hf1, hf2⟩ := row3 hvr
    go_wp2_with fail
    obtain ⟨hx0, hx1, hx2, -, -, -⟩ := row3 (row3_set (x := .bool false) (y := d) (z := .int .i64 0) hvr)
    have hn := natv_dyad (x := .bool false) (y := d) (z := .int .i64 0) IsS.nil hd hvr
    have hbY := bset (i := 2) (u := .int .i64 0) (bset (i := 1) (u := d) (bset (i := 0) (u := .bool false) (HB.out.trans (hb3.mono hXs)) (Nat.le_refl _)) (Nat.le_refl _)) (Nat.le_refl _)
    refine bodyPost_ret (v := .agg #[.bool false, d, .int .i64 0]) ?_ rfl ⟨_, rfl, ⟨_, (by rw [t]), hn⟩, hbY⟩
    simp [results, Tryd.results8, go_sem, hx0, hx1, hx2]
end Go.Proofs.YtgclooabjilniaaDoor
