/-
Texts of this proof, joined: FlX StD StF DyA LwB MoA SmA SnA VvH QuA QuB QuC. No condition.
-/
import Derived.Test.YtbghmceglemppaaGreatDoorK08
import Derived.Test.YtbghmceglemppaaGreatDoorK13
import Derived.Test.YtbghmceglemppaaGreatDoorK14
import Derived.Test.YtbghmceglemppaaGreatDoorK24
import Derived.Test.YtbghmceglemppaaGreatDoorK48
import Derived.Test.YtbghmceglemppaaGreatDoorK50
import Derived.Test.YtbghmceglemppaaGreatDoorK52
import Derived.Test.YtbghmceglemppaaGreatDoorK54
import Derived.Test.YtbghmceglemppaaGreatDoorK55
import Derived.LaidEqlPtr
import Derived.Deep.RegionHeld3
import Derived.Deep.DeepCutAuto
/-
The reference's Order of two dyadic values. No condition.
-/
namespace Go.Proofs.YtbghmceglemppaaGreatDoor
open Go.RowKit

theorem dSum (n1 n2 : Bool) (a b : Value) (e1 e2 e : Int) (x y A B : Nat) (w : World) (ha : NatV w a x) (hb : NatV w b y) (hm : min e1 e2 = e) (hs1 : e1 - e = (A : Int)) (hs2 : e2 - e = (B : Int)) (g1 : -2000000000 ≤ e1) (g2 : e1 ≤ 2000000000) (g3 : -2000000000 ≤ e2) (g4 : e2 ≤ 2000000000) (g5 : -2000000000 ≤ e)
    (hx : nl x ≤ 1000000000) (hy : nl y ≤ 1000000000) (hA : A ≤ 4000000000) (hB : B ≤ 4000000000) (hP : nl (x * 2 ^ A) ≤ 1000000000) (hQ : nl (y * 2 ^ B) ≤ 1000000000) :
    Calls Tryz.prog 19 #[.agg #[.bool n1, a, .int .i64 e1], .agg #[.bool n2, b, .int .i64 e2]] w fun e' w' => ∃ r, e' = .returned r ∧ SumP (x * 2 ^ A) (y * 2 ^ B) n1 n2 e w r w' := by
  cases n1 <;> cases n2
  · exact dSum_ff a b e1 e2 e x y A B w ha hb hm hs1 hs2 g1 g2 g3 g4 g5 hx hy hA hB hP hQ
  · exact dSum_ft a b e1 e2 e x y A B w ha hb hm hs1 hs2 g1 g2 g3 g4 g5 hx hy hA hB hP hQ
  · exact dSum_tf a b e1 e2 e x y A B w ha hb hm hs1 hs2 g1 g2 g3 g4 g5 hx hy hA hB hP hQ
  · exact dSum_tt a b e1 e2 e x y A B w ha hb hm hs1 hs2 g1 g2 g3 g4 g5 hx hy hA hB hP hQ
theorem sI_not (n : Bool) (x : Nat) : sI (!n) x = - sI n x := by cases n <;> simp [sI]
theorem sgD_cmp {ng : Bool} {M : Nat} {i j : Int} (h : sI ng M = i - j) : sgD ng M = cmpI i j := by
  unfold sgD
  by_cases h0 : M = 0
  · subst h0
    have : i = j := by cases ng <;> simp [sI] at h <;> omega
    rw [if_pos rfl, this]; unfold cmpI; rw [if_neg (by omega), if_neg (by omega)]
  · rw [if_neg h0]
    cases ng
    · have h' : (M : Int) = i - j := h
      rw [cmpI_gt (by omega)]; rfl
    · have h' : -(M : Int) = i - j := h
      rw [cmpI_lt (by omega)]; rfl
set_option maxRecDepth 100000 in
set_option maxHeartbeats 1600000 in
theorem dOrder (n1 n2 : Bool) (a b : Value) (e1 e2 e : Int) (x y A B : Nat) (w : World) (ha : NatV w a x) (hb : NatV w b y) (hm : min e1 e2 = e) (hs1 : e1 - e = (A : Int)) (hs2 : e2 - e = (B : Int)) (g1 : -2000000000 ≤ e1) (g2 : e1 ≤ 2000000000) (g3 : -2000000000 ≤ e2) (g4 : e2 ≤ 2000000000) (g5 : -2000000000 ≤ e)
    (hx : nl x ≤ 1000000000) (hy : nl y ≤ 1000000000) (hA : A ≤ 4000000000) (hB : B ≤ 4000000000) (hP : nl (x * 2 ^ A) ≤ 1000000000) (hQ : nl (y * 2 ^ B) ≤ 1000000000) :
    Calls Tryz.prog 18 #[.agg #[.bool n1, a, .int .i64 e1], .agg #[.bool n2, b, .int .i64 e2]] w fun e' w' => e' = .returned (.int .i64 (cmpI (sI n1 (x * 2 ^ A)) (sI n2 (y * 2 ^ B)))) ∧ Below w.heap.size w w' := by
  have hSa := ha.isS
  have hSb := hb.isS
  have HS : Hid (∀ W : World, NatV W a x → NatV W b y → Calls Tryz.prog 19 #[.agg #[.bool n1, a, .int .i64 e1], .agg #[.bool (!n2), b, .int .i64 e2]] W fun e' w' => ∃ r, e' = .returned r ∧ SumP (x * 2 ^ A) (y * 2 ^ B) n1 (!n2) e W r w') :=
    Lib.hid fun W h1 h2 => dSum n1 (!n2) a b e1 e2 e x y A B W h1 h2 hm hs1 hs2 g1 g2 g3 g4 g5 hx hy hA hB hP hQ
  clear hm hs1 hs2 g1 g2 g3 g4 g5 hx hy hA hB hP hQ
  have hab := (Below.refl w.heap.size w).alloc (Nat.le_refl _) (.cells #[.bool n1, a, .int .i64 e1] 30)
  have hac := hab.alloc hab.size (.cells #[.bool n2, b, .int .i64 e2] 30)
  obtain ⟨X, hX⟩ : ∃ X, X = (w.alloc (.cells #[.bool n1, a, .int .i64 e1] 30)).alloc (.cells #[.bool n2, b, .int .i64 e2] 30) := ⟨_, rfl⟩
  have hr1 : X.heap[w.heap.size]? = some (.cells #[.bool n1, a, .int .i64 e1] 30 (0, 0)) := by
    rw [hX]; exact keep_row (fbone _) (box_row (Below.refl _ _))
  have hr2 : X.heap[w.heap.size + 1]? = some (.cells #[.bool n2, b, .int .i64 e2] 30 (0, 0)) := by
    rw [hX]
    have := box_row (Below.refl _ ((w.alloc (.cells #[.bool n1, a, .int .i64 e1] 30)).alloc (.cells #[.bool n2, b, .int .i64 e2] 30)))
    simpa using this
  rw [← hX] at hac
  obtain ⟨x0, x1, x2, -, -, -⟩ := row3 hr1
  obtain ⟨y0, y1, y2, -, -, -⟩ := row3 hr2
  have NA := Lib.hid (ha.below hac)
  have NB := Lib.hid (hb.below hac)
  have HW := Lib.hid hac
  have hXs := hac.size
  have hcc := Below.refl X.heap.size X
  obtain ⟨P, hP⟩ : ∃ P, P = x * 2 ^ A := ⟨_, rfl⟩
  obtain ⟨Q, hQ⟩ : ∃ Q, Q = y * 2 ^ B := ⟨_, rfl⟩
  rw [← hP, ← hQ] at HS ⊢
  clear hr1 hr2 hab hac ha hb hP hQ
  go_enter Tryz.func18, Tryz.ntmps18
  go_upto_region 1 with fail
  rw [← hX]
  clear hX
  first
    | (go_region_held3 (fun w' => w'.cell? ⟨w.heap.size, 0, none⟩ = some (.bool n1) ∧ w'.cell? ⟨w.heap.size, 1, none⟩ = some a ∧ w'.cell? ⟨w.heap.size, 2, none⟩ = some (.int .i64 e1) ∧ w'.cell? ⟨w.heap.size + 1, 0, none⟩ = some (.bool n2) ∧ w'.cell? ⟨w.heap.size + 1, 1, none⟩ = some b ∧ w'.cell? ⟨w.heap.size + 1, 2, none⟩ = some (.int .i64 e2))
        ((refine ks6 x0 x1 x2 y0 y1 y2 ?_; first | assumption | exact Below.drew hcc))
        (first
          | (go_at_call 22; refine (dOpp n2 b e2 _ hSb).mono ?_; rintro _ w3 ⟨rfl, hb3⟩; have hb3 : Below X.heap.size X w3 := bthen (Below.drew hcc) hb3)
          | (go_at_call 19; refine (HS.out _ (NA.out.below hb3) (NB.out.below hb3)).mono ?_; rintro _ w4 ⟨_, rfl, ng, M, ⟨q, rfl, hq⟩, hM, hb4⟩; have hSq := hq.isS; have hb4 := bthen hb3 hb4; have HM := Lib.hid hM; have HQ4 := Lib.hid hq; clear hM hq)
          | (go_at_call 60; refine (dSign ng q e M _ HQ4.out).mono ?_; rintro _ w5 ⟨rfl, hb5⟩; have hb5 := bthen hb4 hb5)))
    | fail
  all_goals
    go_wp2
    go_ret
    have k := HM.out
    rw [sI_not] at k
    exact ⟨congrArg (fun z => Ending.returned (.int .i64 z)) (sgD_cmp (i := sI n1 P) (j := sI n2 Q) (by omega)), HW.out.trans (hb5.mono hXs)⟩
end Go.Proofs.YtbghmceglemppaaGreatDoor

/-
The thin package's Set, Neg, Abs. No condition.
-/
namespace Go.Proofs.YtbghmceglemppaaGreatDoor
open Go.RowKit

theorem bthenX {B : Nat} {a b c : World} (h : Below B a b) (k : Below B b c) : Below B a c := h.trans k
theorem stA_bd (f p m : Nat) (neg : Bool) (M : Nat) : -1 ≤ stA f p m neg M ∧ stA f p m neg M ≤ 1 := by
  unfold stA rA; repeat' split
  all_goals omega
theorem rQ_range {p m M : Nat} {neg : Bool} {e : Int} (h : bl M ≤ 1000000 ∧ -100000000 ≤ e ∧ e ≤ 100000000) : -900000000 ≤ e + (rk p M : Nat) ∧ e + (rk p M : Nat) + bl (rQ p m neg 0 M) ≤ 900000000 := by
  have h1 := rk_le p M
  have h2 := bl_rQ p m neg 0 M
  omega
end Go.Proofs.YtbghmceglemppaaGreatDoor

/-
The thin package's SetPrec, SetMantExp, MantExp, IsInt. No condition.
-/
namespace Go.Proofs.YtbghmceglemppaaGreatDoor
open Go.RowKit

end Go.Proofs.YtbghmceglemppaaGreatDoor

/-
The value of a Real in the reference. No condition.
-/
namespace Go.Proofs.YtbghmceglemppaaGreatDoor
open Go.RowKit

def dyN (f : Nat) (n : Bool) : Bool := if f = 1 then n else false
def dyM (f M : Nat) : Nat := if f = 1 then M else 0
def dyE (f : Nat) (e : Int) : Int := if f = 1 then e else 0
theorem ofReal_any (P E p m f : Nat) (e : Int) (neg : Bool) (v : Value) (ws : List Nat) (w : World) (hv : RW w v ws) (ho : RealOk P E p m f ws e) :
    Calls Tryz.prog 17 #[.agg #[.int .u64 p, .int .i64 m, .int .i64 f, .bool neg, v, .int .i64 e]] w fun e' w' => ∃ r, e' = .returned r ∧ DyV w' r (dyN f neg) (dyM f (wv ws)) (dyE f e) ∧ Below w.heap.size w w' := by
  by_cases hf : f = 1
  · subst hf
    obtain ⟨-, -, -, h | h | h⟩ := ho
    · exact absurd h (by decide)
    · exact absurd h (by decide)
    · exact ofReal_one p m e neg v ws w hv h.2.2.2.1
  · rw [dyN, dyM, dyE, if_neg hf, if_neg hf, if_neg hf]
    exact ofReal_other p m f e neg v w hv.isS hf
theorem dy_nl {P E p m f : Nat} {e : Int} {ws : List Nat} (ho : RealOk P E p m f ws e) (hP : P ≤ 64000) : bl (dyM f (wv ws)) ≤ P ∧ -(E : Int) ≤ dyE f e ∧ dyE f e ≤ E := by
  obtain ⟨h1, h2, -, h⟩ := ho
  by_cases hf : f = 1
  · subst hf
    rw [dyM, dyE, if_pos rfl, if_pos rfl]
    rcases h with h | h | h
    · exact absurd h (by decide)
    · exact absurd h (by decide)
    · exact ⟨Nat.le_trans h.2.2.1 h2, h.2.2.2.2.1, h.2.2.2.2.2⟩
  · rw [dyM, dyE, if_neg hf, if_neg hf, bl_zero]; omega
theorem RealOk.pos {P E p m f : Nat} {ws : List Nat} {e : Int} (h : RealOk P E p m f ws e) (hf : f = 1) : 0 < wv ws := by
  subst hf
  obtain ⟨-, -, -, h | h | h⟩ := h
  · exact absurd h (by decide)
  · exact absurd h (by decide)
  · exact h.2.1
end Go.Proofs.YtbghmceglemppaaGreatDoor

/-
What is told of a Real against its reference. No condition.
-/
namespace Go.Proofs.YtbghmceglemppaaGreatDoor
open Go.RowKit

theorem rQ_zero (p m : Nat) (neg : Bool) : rk p 0 = 0 ∧ rQ p m neg 0 0 = 0 ∧ rA p m neg 0 0 = 0 := rQ_fits neg (by rw [bl_zero]; exact Nat.zero_le _)
theorem told_dy {w : World} {z : Value} {p m f M : Nat} {n : Bool} {e : Int} (hf : f = 0 ∨ f = 1) (hz : RealV w z p m f n (rQ p m n 0 M) (e + (rk p M : Nat))) (hM : f = 1 → 0 < M) (hp : 0 < p) :
    Told w z p m (dyN f n) (rQ p m (dyN f n) 0 (dyM f M)) (dyE f e + (rk p (dyM f M) : Nat)) := by
  rcases hf with rfl | rfl
  · obtain ⟨h1, h2, -⟩ := rQ_zero p m (dyN 0 n)
    rw [show dyM 0 M = 0 from rfl, h2]
    exact hz.told0
  · rw [show dyN 1 n = n from rfl, show dyM 1 M = M from rfl, show dyE 1 e = e from rfl]
    exact hz.told (rQ_pos n 0 hp (hM rfl)) (deq.refl _ _)
theorem stA_dy {p m f M : Nat} {n : Bool} (hf : f = 0 ∨ f = 1) : stA f p m n M = rA p m (dyN f n) 0 (dyM f M) := by
  rcases hf with rfl | rfl
  · exact (rQ_zero p m (dyN 0 n)).2.2.symm
  · rfl
theorem RealV.form {w : World} {z : Value} {p m f M : Nat} {neg : Bool} {X : Int} (h : RealV w z p m f neg M X) : ∃ (v : Value) (E : Int), z = .agg #[.int .u64 p, .int .i64 m, .int .i64 f, .bool neg, v, .int .i64 E] ∧ IsS v := by
  obtain ⟨v, E, zs, B, h1, h2, -⟩ := h
  exact ⟨v, E, h1, h2.isS⟩
theorem RealOk.form' {P E p m f : Nat} {ws : List Nat} {e : Int} (h : RealOk P E p m f ws e) : f ≤ 2 := by
  obtain ⟨-, -, -, h | h | h⟩ := h <;> omega
theorem pOf_self (k p : Nat) : pOf k (max p p) = pOf k p := by rw [Nat.max_self]
end Go.Proofs.YtbghmceglemppaaGreatDoor

/-
Rounding is monotone. Plain law. No condition.
-/
namespace Go.Proofs.YtbghmceglemppaaGreatDoor
open Go.RowKit

theorem lef_mono {R R' D : Nat} (h : R ≤ R') : lef R D 0 ≤ lef R' D 0 := by
  unfold lef; repeat' split
  all_goals omega
theorem awy_mono {neg odd : Bool} {l l' m : Nat} (h : l ≤ l') (hl : l' ≤ 3) (hu : awy neg odd l m = true) : awy neg odd l' m = true := by
  have c : l = 0 ∨ l = 1 ∨ l = 2 ∨ l = 3 := by omega
  have c' : l' = 0 ∨ l' = 1 ∨ l' = 2 ∨ l' = 3 := by omega
  unfold awy at hu ⊢
  rcases c with rfl | rfl | rfl | rfl <;> rcases c' with rfl | rfl | rfl | rfl <;> first | omega | (cases odd <;> cases neg <;> revert hu <;> (repeat' split) <;> simp)
theorem rQ_mono {p m M N : Nat} (neg : Bool) (hp : 0 < p) (h : M ≤ N) : rQ p m neg 0 M * 2 ^ rk p M ≤ rQ p m neg 0 N * 2 ^ rk p N := by
  have hbl := bl_mono h
  rcases Nat.lt_or_ge (rk p M) (rk p N) with hk | hk
  · have hN : p < bl N := by unfold rk at hk; omega
    obtain ⟨b1, -, -⟩ := rQ_bound (m := m) neg 0 hp hN
    have h1 : rQ p m neg 0 M * 2 ^ rk p M ≤ 2 ^ bl M := by
      rcases Nat.lt_or_ge p (bl M) with hM | hM
      · have := (rQ_bound (m := m) neg 0 hp hM).2.2
        have e : 2 ^ bl M = 2 ^ p * 2 ^ rk p M := by rw [← Nat.pow_add]; congr 1; unfold rk; omega
        rw [e]; exact Nat.mul_le_mul_right _ this
      · obtain ⟨k0, q0, -⟩ := rQ_fits (m := m) neg hM
        rw [k0, q0, Nat.pow_zero, Nat.mul_one]; exact Nat.le_of_lt (lt_bl M)
    have h2 : 2 ^ bl M ≤ 2 ^ (p - 1) * 2 ^ rk p N := by rw [← Nat.pow_add]; exact Nat.pow_le_pow_right (by decide) (by unfold rk at *; omega)
    have h3 : N / 2 ^ rk p N ≤ rQ p m neg 0 N := Nat.le_add_right _ _
    exact Nat.le_trans h1 (Nat.le_trans h2 (Nat.mul_le_mul_right _ (Nat.le_trans b1 h3)))
  · have hk' : rk p M = rk p N := by unfold rk at *; omega
    unfold rQ rU rL
    rw [hk']
    obtain ⟨D, hD⟩ : ∃ D, D = 2 ^ rk p N := ⟨_, rfl⟩
    rw [← hD]
    have hD0 : 0 < D := by rw [hD]; exact Nat.two_pow_pos _
    refine Nat.mul_le_mul_right _ ?_
    have hd : M / D ≤ N / D := Nat.div_le_div_right h
    rcases Nat.lt_or_eq_of_le hd with hlt | heq
    · split <;> split <;> omega
    · have hr : M % D ≤ N % D := by
        have a1 := Nat.div_add_mod M D
        have a2 := Nat.div_add_mod N D
        rw [heq] at a1
        omega
      rw [heq]
      cases hu : awy neg (decide (N / D % 2 = 1)) (lef (M % D) D 0) m with
      | false => simp
      | true => rw [awy_mono (lef_mono hr) (lef_le _ _ _) hu]; exact Nat.le_refl _
def vN (V : Int) : Bool := decide (V < 0)
/-- The rounded value, at the exact value's exponent. -/
def rV (p m : Nat) (V : Int) : Int := sI (vN V) (rQ p m (vN V) 0 V.natAbs * 2 ^ rk p V.natAbs)
theorem rV_mono {p m : Nat} {V W : Int} (hp : 0 < p) (h : V ≤ W) : rV p m V ≤ rV p m W := by
  unfold rV vN
  by_cases h1 : V < 0 <;> by_cases h2 : W < 0
  · rw [decide_eq_true h1, decide_eq_true h2]
    have := rQ_mono (p := p) (m := m) true hp (show W.natAbs ≤ V.natAbs by omega)
    simp only [sI, if_true]; omega
  · rw [decide_eq_true h1, decide_eq_false h2]
    simp only [sI, if_true, Bool.false_eq_true, if_false]; omega
  · omega
  · rw [decide_eq_false h1, decide_eq_false h2]
    have := rQ_mono (p := p) (m := m) false hp (show V.natAbs ≤ W.natAbs by omega)
    simp only [sI, Bool.false_eq_true, if_false]; omega
end Go.Proofs.YtbghmceglemppaaGreatDoor

/-
The reference's sum of two dyadic values, by its value; what is plain in it. No condition.
-/
namespace Go.Proofs.YtbghmceglemppaaGreatDoor
open Go.RowKit

/-- The sum of two dyadic values, at the lower exponent. -/
def smV (n1 : Bool) (M : Nat) (E : Int) (n2 : Bool) (N : Nat) (F : Int) : Int := sI n1 (lo M E (min E F)) + sI n2 (lo N F (min E F))
theorem natAbs_sI (n : Bool) (S : Nat) : (sI n S).natAbs = S := by cases n <;> simp [sI]
theorem vN_sI {n : Bool} {S : Nat} (h : 0 < S) : vN (sI n S) = n := by
  cases n
  · simp [sI, vN]
  · simp [sI, vN]; omega
theorem sI_ne {n : Bool} {S : Nat} (h : 0 < S) : sI n S ≠ 0 := by
  cases n
  · simp [sI]; omega
  · simp [sI]; omega
theorem lo_zero (E e : Int) : lo 0 E e = 0 := Nat.zero_mul _
theorem sI_zero (n : Bool) : sI n 0 = 0 := by cases n <;> rfl
theorem smV_bl (n1 : Bool) (M : Nat) (E : Int) (n2 : Bool) (N : Nat) (F : Int) : bl (smV n1 M E n2 N F).natAbs ≤ max (bl M + (E - min E F).toNat) (bl N + (F - min E F).toNat) + 1 := by
  refine Nat.le_trans (bl_mono ?_) (bl_suM M E N F)
  unfold smV suM; cases n1 <;> cases n2 <;> simp [sI] <;> omega
theorem dy_bd {P E p m f : Nat} {ws : List Nat} {e : Int} (h : RealOk P E p m f ws e) : bl (dyM f (wv ws)) ≤ P ∧ -(E : Int) ≤ dyE f e ∧ dyE f e ≤ E := by
  by_cases hf : f = 1
  · subst hf
    obtain ⟨-, h2, -, h | h | ⟨-, h3, h4, h5, h6, h7⟩⟩ := h
    · omega
    · omega
    · exact ⟨Nat.le_trans h4 h2, h6, h7⟩
  · unfold dyM dyE; rw [if_neg hf, if_neg hf, bl_zero]; omega
/-- The reference's sum of two dyadic values. -/
theorem dSum_sm (n1 n2 : Bool) (a b : Value) (e1 e2 : Int) (x y : Nat) (w : World) (ha : NatV w a x) (hb : NatV w b y) (hx : bl x ≤ 1000000) (hy : bl y ≤ 1000000) (g1 : -1000000 ≤ e1 ∧ e1 ≤ 1000000) (g2 : -1000000 ≤ e2 ∧ e2 ≤ 1000000) :
    Calls Tryz.prog 19 #[.agg #[.bool n1, a, .int .i64 e1], .agg #[.bool n2, b, .int .i64 e2]] w fun e' w' => ∃ ng c M, e' = .returned (.agg #[.bool ng, c, .int .i64 (min e1 e2)]) ∧ NatV w' c M ∧ sI ng M = smV n1 x e1 n2 y e2 ∧ Below w.heap.size w w' := by
  have k1 := bl_two x (e1 - min e1 e2).toNat
  have k2 := bl_two y (e2 - min e1 e2).toNat
  refine (dSum n1 n2 a b e1 e2 (min e1 e2) x y (e1 - min e1 e2).toNat (e2 - min e1 e2).toNat w ha hb rfl (by omega) (by omega) (by omega) (by omega) (by omega) (by omega) (by omega)
    (nl_of_bl (by omega)) (nl_of_bl (by omega)) (by omega) (by omega) (nl_of_bl (by omega)) (nl_of_bl (by omega))).mono ?_
  rintro _ w' ⟨r, rfl, ng, M, ⟨c, rfl, hc⟩, hs, hb⟩
  exact ⟨ng, c, M, rfl, hc, hs, hb⟩
theorem sum_bl {ng : Bool} {M : Nat} {V : Int} (h : sI ng M = V) : bl M = bl V.natAbs := by rw [← h, natAbs_sI]
end Go.Proofs.YtbghmceglemppaaGreatDoor

/-
What the laws on sums and products share, off the walks of Add. No condition.
-/
namespace Go.Proofs.YtbghmceglemppaaGreatDoor
open Go.RowKit

theorem deq_zero {N M : Nat} {X Y : Int} (h : deq N X M Y) (h0 : N = 0) : M = 0 := by
  obtain ⟨i, j, h1, -⟩ := h
  rw [h0, Nat.zero_mul] at h1
  rcases Nat.mul_eq_zero.1 h1.symm with h2 | h2
  · exact h2
  · exact absurd h2 (Nat.ne_of_gt (Nat.two_pow_pos _))
/-- A float as impl.float makes it: its words. -/
theorem FloatAt.open {w : World} {B g p m M : Nat} {n : Bool} {E : Int} (h : FloatAt w B g p m 1 n M E) (hM : 0 < M) (hp : bl M ≤ p) (hb : bl M ≤ 10000) :
    ∃ r x, FltR w g p m 0 1 n r x ∧ Own w B 181 r (cellsW (topN M)) ∧ Good (topN M) p ∧ (topN M).length ≤ 200 ∧ x = (bl M : Nat) + E ∧ deq (wv (topN M)) (x - 64 * ((topN M).length : Int)) M E := by
  obtain ⟨-, r, x, h1, h2⟩ := h
  obtain ⟨hx, h3⟩ := h2 rfl
  have hn := nw_bl hM
  have hl : (topN M).length = nw M := topN_length _
  refine ⟨r, x, h1, h3, topN_good hM hp (by omega), by rw [hl]; omega, hx, ?_⟩
  rw [hl, topN_wv hM, hx]
  exact ⟨0, 64 * nw M - bl M, by simp, by omega⟩
/-- What Add leaves in its receiver: the rounded value V times 2 to X; zn is the sign of zero. -/
def AddR (w : World) (B b q m : Nat) (zn : Bool) (V X : Int) : Prop :=
  FVal w B b q m (rA q m (vN V) 0 V.natAbs) (fO V.natAbs) (if V = 0 then zn else vN V) (rQ q m (vN V) 0 V.natAbs) (X + rk q V.natAbs)
theorem AddR.pos {w : World} {B b q m S : Nat} {zn n : Bool} {X : Int} (h : 0 < S) (hF : FVal w B b q m (rA q m n 0 S) 1 n (rQ q m n 0 S) (X + rk q S)) : AddR w B b q m zn (sI n S) X := by
  unfold AddR
  rw [natAbs_sI, vN_sI h, fO, if_neg (Nat.ne_of_gt h), if_neg (sI_ne h)]
  exact hF
theorem AddR.zero {w : World} {B b q m : Nat} {zn : Bool} {X e : Int} {v : Value} (h : FltR w b q m 0 0 zn v e) : AddR w B b q m zn 0 X := by
  unfold AddR
  obtain ⟨h1, h2, h3⟩ := rQ_zero q m (vN 0)
  rw [Int.natAbs_zero, h3, if_pos rfl, show fO 0 = 0 from rfl]
  exact ⟨v, e, h, fun hc => by cases hc⟩
theorem AddR.cast {w : World} {B b q m : Nat} {zn : Bool} {V V' X X' : Int} (h : AddR w B b q m zn V X) (hV : V = V') (hX : X = X') : AddR w B b q m zn V' X' := by rw [← hV, ← hX]; exact h
theorem FltR.at {w : World} {b p m f : Nat} {a : Int} {neg : Bool} {v : Value} {e : Int} (h : FltR w b p m a f neg v e) (i : Nat) (u : Value) {B1 g p1 m1 f1 M : Nat} {n1 : Bool} {E : Int} (hne : b ≠ g) (hx : FloatAt w B1 g p1 m1 f1 n1 M E) : FloatAt (w.setCell ⟨b, i, none⟩ u) B1 g p1 m1 f1 n1 M E := by
  obtain ⟨h1, r, x, h2, h3⟩ := hx
  refine ⟨h1, r, x, (heap_setCell_other _ _ _ _ (by simpa using hne.symm)).trans h2, fun hf => ?_⟩
  obtain ⟨h4, h5⟩ := h3 hf
  exact ⟨h4, h.own h5 i u⟩
theorem FloatAt.row {w : World} {B g p m f M : Nat} {n : Bool} {E : Int} (h : FloatAt w B g p m f n M E) : ∃ r x, FltR w g p m 0 f n r x := by
  obtain ⟨-, r, x, h, -⟩ := h; exact ⟨r, x, h⟩
theorem FloatAt.drewN {w : World} {B g p m f M : Nat} {n : Bool} {E : Int} (h : FloatAt w B g p m f n M E) (k : Nat) : FloatAt (w.drewN k) B g p m f n M E := h.below (undrewN' (Below.refl _ _))
/-- What is told of a rounded sum V times 2 to X; zn is the sign of zero. -/
def AddZ (w : World) (z : Value) (A : Int) (q m : Nat) (zn : Bool) (V X : Int) : Prop :=
  A = rA q m (vN V) 0 V.natAbs ∧ RealV w z q m (fO V.natAbs) (if V = 0 then zn else vN V) (rQ q m (vN V) 0 V.natAbs) (X + rk q V.natAbs)
theorem AddZ.below {w w' : World} {z : Value} {A : Int} {q m : Nat} {zn : Bool} {V X : Int} (h : AddZ w z A q m zn V X) (hb : Below w.heap.size w w') : AddZ w' z A q m zn V X := ⟨h.1, h.2.below hb⟩
theorem AddZ.told {w : World} {z : Value} {A : Int} {q m M : Nat} {zn ng : Bool} {V X : Int} (h : AddZ w z A q m zn V X) (hV : sI ng M = V) (hq : 0 < q) : Told w z q m ng (rQ q m ng 0 M) (X + (rk q M : Nat)) ∧ A = rA q m ng 0 M := by
  obtain ⟨h1, h2⟩ := h
  subst hV
  rcases Nat.eq_zero_or_pos M with h0 | h0
  · subst h0
    obtain ⟨k1, k2, k3⟩ := rQ_zero q m ng
    rw [sI_zero] at h1 h2
    rw [k2, k3]
    refine ⟨?_, by rw [h1]; exact (rQ_zero q m _).2.2⟩
    exact h2.told0
  · rw [natAbs_sI, vN_sI h0] at h1 h2
    rw [fO, if_neg (Nat.ne_of_gt h0), if_neg (sI_ne h0)] at h2
    exact ⟨h2.told (rQ_pos ng 0 hq h0) (deq.refl _ _), h1⟩
theorem ksT2 {W X : World} {i j : Nat} {a b c d e f a' b' c' d' e' f' : Value} {T T' : TypeId} (hr : W.heap[i]? = some (.cells #[a, b, c, d, e, f] T (0, 0))) (hq : W.heap[j]? = some (.cells #[a', b', c', d', e', f'] T' (0, 0))) (h : Below W.heap.size W X) :
    (X.cell? ⟨i, 0, none⟩ = some a ∧ X.cell? ⟨i, 1, none⟩ = some b ∧ X.cell? ⟨i, 2, none⟩ = some c ∧ X.cell? ⟨i, 3, none⟩ = some d ∧ X.cell? ⟨i, 4, none⟩ = some e ∧ X.cell? ⟨i, 5, none⟩ = some f) ∧
    (X.cell? ⟨j, 0, none⟩ = some a' ∧ X.cell? ⟨j, 1, none⟩ = some b' ∧ X.cell? ⟨j, 2, none⟩ = some c' ∧ X.cell? ⟨j, 3, none⟩ = some d' ∧ X.cell? ⟨j, 4, none⟩ = some e' ∧ X.cell? ⟨j, 5, none⟩ = some f') :=
  ⟨(ks12 hr h).2, (ks12 hq h).2⟩
theorem AddZ.form {w : World} {z : Value} {A : Int} {q m : Nat} {zn : Bool} {V X : Int} (h : AddZ w z A q m zn V X) : ∃ (f : Nat) (sg : Bool) (v : Value) (E : Int), z = .agg #[.int .u64 q, .int .i64 m, .int .i64 f, .bool sg, v, .int .i64 E] ∧ IsS v := by
  obtain ⟨v, E, h1, h2⟩ := h.2.form
  exact ⟨_, _, v, E, h1, h2⟩
end Go.Proofs.YtbghmceglemppaaGreatDoor

/-
fnorm with its answer. No condition.
-/
namespace Go.Proofs.YtbghmceglemppaaGreatDoor
open Go.RowKit

set_option maxRecDepth 100000 in
set_option maxHeartbeats 800000 in
theorem fnorm_val (v : Value) (M B : Nat) (w : World) (ho : Own w B 181 v (cellsW (wds M))) (h0 : 0 < M) (hl : nw M ≤ 1000000000) :
    Calls Tryz.prog 174 #[v] w fun e w' => e = .returned (.int .i64 ((64 * nw M - bl M : Nat) : Int)) ∧ Own w' B 181 v (cellsW (topN M)) ∧ Below B w w' ∧ Only (sBlk v) w w' := by
  have hS := ho.isS
  have hL : sLen v = nw M := by rw [ho.len, cellsW_length, wds_length]
  have hp := nw_pos h0
  have e := bl_words h0
  have hc := (ho.rw' (wds_all M)).cell (nw M - 1) (by rw [wds_length]; omega)
  rw [wds_getD] at hc
  have ht := wdg_lt M (nw M - 1)
  have htp : 0 < wdg M (nw M - 1) := Nat.pos_of_ne_zero (wdg_last h0)
  have HTN : Hid (topN M = wdsN (M * 2 ^ (64 * nw M - bl M)) (nw M)) := Lib.hid rfl
  obtain ⟨j, hj⟩ : ∃ j, nw M = j + 1 := ⟨nw M - 1, by omega⟩
  obtain ⟨t, htt⟩ : ∃ t, t = wdg M (nw M - 1) := ⟨_, rfl⟩
  rw [← htt] at e hc ht htp
  have hbt := bl_le64 ht
  have hbp := bl_pos htp
  have es : 64 * nw M - bl M = 64 - bl t := by rw [e]; omega
  rw [es] at HTN ⊢
  obtain ⟨s, hs⟩ : ∃ s, s = 64 - bl t := ⟨_, rfl⟩
  rw [← hs] at HTN ⊢
  have hs64 : s < 64 := by omega
  rw [hj, Nat.add_sub_cancel] at hc
  rw [hj] at hL hl
  have HO := Lib.hid ho
  have HJ := Lib.hid hj
  have HS := Lib.hid hs
  have HT := Lib.hid ht
  clear ho h0 hp e htp hbt hbp es hs hj ht htt
  rcases Nat.eq_zero_or_pos s with hs0 | hs0
  · subst hs0
    go_enter Tryz.func174, Tryz.ntmps174
    go_wp2_with fail
    refine (nlz_any t w HT.out).mono ?_
    rintro _ _ ⟨rfl, rfl⟩
    rw [← HS.out]
    go_wp2
    go_ret
    refine ⟨rfl, ?_, Below.refl _ _, Only.refl _ _⟩
    rw [HTN.out, Nat.pow_zero, Nat.mul_one, wdsN_nw]
    exact HO.out
  · have t1 : decide (0 < s) = true := decide_eq_true hs0
    go_enter Tryz.func174, Tryz.ntmps174
    go_wp2_with fail
    refine (nlz_any t w HT.out).mono ?_
    rintro _ _ ⟨rfl, rfl⟩
    rw [← HS.out]
    go_wp2_with fail
    refine (lshVU_any v (wds M) M s B w HO.out (wds_all M) (wv_wds M) (by rw [wds_length, HJ.out]; omega) (by rw [wds_length, HJ.out]; exact hl) hs0 hs64).mono ?_
    rintro _ w1 ⟨rfl, h1, h2, h3⟩
    rw [wds_length, ← HTN.out] at h1
    have H1 := Lib.hid h1
    clear h1
    go_wp2
    go_ret
    exact ⟨rfl, H1.out, h2, h3⟩
end Go.Proofs.YtbghmceglemppaaGreatDoor

/-
Rounding of a number whose further digits are told by a mark alone: how far the digits go does not matter. Plain arithmetic, no condition.
-/
namespace Go.Proofs.YtbghmceglemppaaGreatDoor

theorem lef_more {R D s s' T low : Nat} (hD : D % 2 = 0) (hs : s ≤ 1) (hlow : low < T) (h0 : s = 0 → low = 0 ∧ s' = 0) (h1 : s = 1 → ¬ (low = 0 ∧ s' = 0)) : lef (R * T + low) (D * T) s' = lef R D s := by
  have hT : 0 < T := by omega
  rcases Nat.eq_zero_or_pos s with e | e
  · obtain ⟨a, b⟩ := h0 e
    subst a; subst b; subst e
    exact lef_scale R D 0 hT
  · have e1 : s = 1 := by omega
    have h2 := h1 e1
    subst e1
    obtain ⟨E, rfl⟩ : ∃ E, D = 2 * E := ⟨D / 2, by omega⟩
    unfold lef
    rw [if_neg (fun h => h2 ?_), if_neg (show ¬ (R = 0 ∧ 1 = 0) by omega)]
    · by_cases hr : R < E
      · have h3 : R * T + T ≤ E * T := by rw [← Nat.succ_mul]; exact Nat.mul_le_mul_right _ hr
        have h4 : 2 * E * T = 2 * (E * T) := Nat.mul_assoc _ _ _
        rw [if_pos (show 2 * (R * T + low) < 2 * E * T by omega), if_pos (show 2 * R < 2 * E by omega)]
      · have h3 : E * T ≤ R * T := Nat.mul_le_mul_right _ (by omega)
        have h4 : 2 * E * T = 2 * (E * T) := Nat.mul_assoc _ _ _
        rw [if_neg (show ¬ 2 * (R * T + low) < 2 * E * T by omega), if_neg (show ¬ 2 * R < 2 * E by omega)]
        by_cases h5 : 2 * (R * T + low) = 2 * E * T ∧ s' = 0
        · exact absurd ⟨by omega, h5.2⟩ h2
        · rw [if_neg h5, if_neg (show ¬ (2 * R = 2 * E ∧ 1 = 0) by omega)]
    · obtain ⟨a, b⟩ := h
      exact ⟨by omega, b⟩
theorem bl_low {Q t low : Nat} (hQ : 0 < Q) (hlow : low < 2 ^ t) : bl (Q * 2 ^ t + low) = bl Q + t := by
  have h1 := bl_ge hQ
  have h2 := lt_bl Q
  have h3 := bl_pos hQ
  have e : bl Q + t = (bl Q - 1 + t) + 1 := by omega
  rw [e]
  refine bl_of ?_ ?_
  · rw [Nat.pow_add]
    exact Nat.le_trans (Nat.mul_le_mul_right _ h1) (Nat.le_add_right _ _)
  · have h4 : Q * 2 ^ t + 2 ^ t ≤ 2 ^ bl Q * 2 ^ t := by rw [← Nat.succ_mul]; exact Nat.mul_le_mul_right _ h2
    rw [show bl Q - 1 + t + 1 = bl Q + t by omega, Nat.pow_add]
    omega
theorem round_more {p m Q s s' t low : Nat} (neg : Bool) (hlow : low < 2 ^ t) (hp : p < bl Q) (hs : s ≤ 1) (h0 : s = 0 → low = 0 ∧ s' = 0) (h1 : s = 1 → ¬ (low = 0 ∧ s' = 0)) :
    rk p (Q * 2 ^ t + low) = rk p Q + t ∧ rQ p m neg s' (Q * 2 ^ t + low) = rQ p m neg s Q ∧ rA p m neg s' (Q * 2 ^ t + low) = rA p m neg s Q := by
  have hQ : 0 < Q := by
    rcases Nat.eq_zero_or_pos Q with h | h
    · subst h; rw [bl_zero] at hp; omega
    · exact h
  have hb := bl_low hQ hlow
  have hk : rk p (Q * 2 ^ t + low) = rk p Q + t := by unfold rk; rw [hb]; omega
  obtain ⟨r, hr⟩ : ∃ r, rk p Q = r + 1 := ⟨rk p Q - 1, by unfold rk; omega⟩
  have hT : 0 < 2 ^ t := Nat.two_pow_pos t
  have hdiv : (Q * 2 ^ t + low) / 2 ^ (rk p Q + t) = Q / 2 ^ rk p Q := by
    rw [Nat.add_comm (rk p Q), Nat.pow_add, ← Nat.div_div_eq_div_mul]
    congr 1
    rw [Nat.add_comm, Nat.add_mul_div_right _ _ hT, Nat.div_eq_of_lt hlow, Nat.zero_add]
  have hmod : (Q * 2 ^ t + low) % 2 ^ (rk p Q + t) = Q % 2 ^ rk p Q * 2 ^ t + low := by
    have e1 := Nat.div_add_mod (Q * 2 ^ t + low) (2 ^ (rk p Q + t))
    rw [hdiv] at e1
    have e2 := Nat.div_add_mod Q (2 ^ rk p Q)
    have e3 : Q * 2 ^ t = 2 ^ (rk p Q + t) * (Q / 2 ^ rk p Q) + Q % 2 ^ rk p Q * 2 ^ t := by
      conv => lhs; rw [← e2]
      rw [Nat.add_mul, Nat.pow_add]
      congr 1
      rw [Nat.mul_assoc, Nat.mul_comm (Q / 2 ^ rk p Q), Nat.mul_assoc]
    omega
  have hL : rL p s' (Q * 2 ^ t + low) = rL p s Q := by
    unfold rL
    rw [hk, hmod, Nat.pow_add]
    refine lef_more ?_ hs hlow h0 h1
    rw [hr, Nat.pow_succ, Nat.mul_mod_left]
  have hU : rU p m neg s' (Q * 2 ^ t + low) = rU p m neg s Q := by
    unfold rU
    rw [hL, hk, hdiv]
  refine ⟨hk, ?_, ?_⟩
  · unfold rQ
    rw [hU, hk, hdiv]
  · unfold rA
    rw [hL, hU]
/-- The digits of X * 2^i / Y, and whether there are more. -/
def qN (X Y i : Nat) : Nat := X * 2 ^ i / Y
def qS (X Y i : Nat) : Nat := if X * 2 ^ i % Y = 0 then 0 else 1
theorem qS_le (X Y i : Nat) : qS X Y i ≤ 1 := by unfold qS; split <;> decide
theorem qN_more {X Y i j : Nat} (hY : 0 < Y) (hij : i ≤ j) : ∃ low, low < 2 ^ (j - i) ∧ qN X Y j = qN X Y i * 2 ^ (j - i) + low ∧ (qS X Y i = 0 → low = 0 ∧ qS X Y j = 0) ∧ (qS X Y i = 1 → ¬ (low = 0 ∧ qS X Y j = 0)) := by
  obtain ⟨T, hT⟩ : ∃ T, T = 2 ^ (j - i) := ⟨_, rfl⟩
  have hT0 : 0 < T := by rw [hT]; exact Nat.two_pow_pos _
  have e0 : X * 2 ^ j = X * 2 ^ i * T := by rw [hT, Nat.mul_assoc, ← Nat.pow_add]; congr 2; omega
  obtain ⟨A, hA⟩ : ∃ A, A = X * 2 ^ i := ⟨_, rfl⟩
  rw [← hA] at e0
  have eA := Nat.div_add_mod A Y
  have hr := Nat.mod_lt A hY
  obtain ⟨q, hq⟩ : ∃ q, q = A / Y := ⟨_, rfl⟩
  obtain ⟨r, hr'⟩ : ∃ r, r = A % Y := ⟨_, rfl⟩
  rw [← hq, ← hr'] at eA
  rw [← hr'] at hr
  have e1 : A * T = Y * (q * T) + r * T := by rw [← eA, Nat.add_mul, Nat.mul_assoc]
  have hd : A * T / Y = q * T + r * T / Y := by rw [e1, Nat.mul_add_div hY]
  have hm : A * T % Y = r * T % Y := by rw [e1, Nat.mul_add_mod]
  refine ⟨r * T / Y, ?_, ?_, ?_, ?_⟩
  · rw [← hT]; rw [Nat.div_lt_iff_lt_mul hY, Nat.mul_comm T]; exact Nat.mul_lt_mul_of_pos_right hr hT0
  · unfold qN; rw [e0, ← hA, hd, ← hq, ← hT]
  · intro h
    unfold qS at h ⊢
    rw [← hA, ← hr'] at h
    rw [e0, hm]
    have h0 : r = 0 := by
      by_cases h2 : r = 0
      · exact h2
      · rw [if_neg h2] at h; cases h
    subst h0
    simp
  · intro h hc
    unfold qS at h hc
    rw [← hA, ← hr'] at h
    rw [e0, hm] at hc
    have h0 : r ≠ 0 := fun h2 => by rw [if_pos h2] at h; cases h
    have h3 : r * T % Y = 0 := by
      by_cases h2 : r * T % Y = 0
      · exact h2
      · rw [if_neg h2] at hc; exact absurd hc.2 (by decide)
    have h4 := Nat.div_add_mod (r * T) Y
    rw [hc.1, h3] at h4
    have h5 : 0 < r * T := Nat.mul_pos (Nat.pos_of_ne_zero h0) hT0
    omega
/-- THE LAW: two ways to reckon a quotient, each with more digits than are asked for, round alike. -/
theorem quo_round {p m X Y i j : Nat} (neg : Bool) (hY : 0 < Y) (hi : p < bl (qN X Y i)) (hj : p < bl (qN X Y j)) :
    ((rk p (qN X Y i) : Nat) : Int) - i = ((rk p (qN X Y j) : Nat) : Int) - j ∧ rQ p m neg (qS X Y i) (qN X Y i) = rQ p m neg (qS X Y j) (qN X Y j) ∧ rA p m neg (qS X Y i) (qN X Y i) = rA p m neg (qS X Y j) (qN X Y j) := by
  have main : ∀ {i j : Nat}, i ≤ j → p < bl (qN X Y i) → ((rk p (qN X Y i) : Nat) : Int) - i = ((rk p (qN X Y j) : Nat) : Int) - j ∧ rQ p m neg (qS X Y i) (qN X Y i) = rQ p m neg (qS X Y j) (qN X Y j) ∧ rA p m neg (qS X Y i) (qN X Y i) = rA p m neg (qS X Y j) (qN X Y j) := fun {i j} hij h => by
    obtain ⟨low, h1, h2, h3, h4⟩ := qN_more (X := X) hY hij
    have := round_more (m := m) neg h1 h (qS_le X Y i) h3 h4
    rw [← h2] at this
    obtain ⟨k1, k2, k3⟩ := this
    exact ⟨by omega, k2.symm, k3.symm⟩
  by_cases hij : i ≤ j
  · exact main hij hi
  · obtain ⟨a, b, c⟩ := main (i := j) (j := i) (by omega) hj
    exact ⟨a.symm, b.symm, c.symm⟩
/-- A mark may be laid behind the digits. -/
theorem round_mark {p m Q s : Nat} (neg : Bool) (hp : p < bl Q) (hs : s ≤ 1) : rk p (2 * Q + s) = rk p Q + 1 ∧ rQ p m neg 0 (2 * Q + s) = rQ p m neg s Q ∧ rA p m neg 0 (2 * Q + s) = rA p m neg s Q := by
  have := round_more (p := p) (m := m) (Q := Q) (s := s) (s' := 0) (t := 1) (low := s) neg (by omega) hp hs (fun h => ⟨h, rfl⟩) (fun h => by omega)
  rw [Nat.pow_one, Nat.mul_comm Q 2] at this
  exact this
end Go.Proofs.YtbghmceglemppaaGreatDoor

/-
The quotient of two mantissas that are shifted to full words against the quotient of the reference: they round alike. Plain arithmetic, no condition.
-/
namespace Go.Proofs.YtbghmceglemppaaGreatDoor

theorem qN_scale {X Y i c : Nat} (hc : 0 < c) : qN (X * c) (Y * c) i = qN X Y i ∧ qS (X * c) (Y * c) i = qS X Y i := by
  have e : X * c * 2 ^ i = X * 2 ^ i * c := by rw [Nat.mul_assoc, Nat.mul_comm c, ← Nat.mul_assoc]
  unfold qN qS
  rw [e, Nat.mul_div_mul_right _ _ hc, Nat.mul_mod_mul_right]
  refine ⟨rfl, ?_⟩
  have h : (X * 2 ^ i % Y * c = 0) ↔ (X * 2 ^ i % Y = 0) := by
    rw [Nat.mul_eq_zero]
    exact ⟨fun h => h.resolve_right (by omega), .inl⟩
  by_cases h0 : X * 2 ^ i % Y = 0
  · rw [if_pos h0, if_pos (h.2 h0)]
  · rw [if_neg h0, if_neg (fun hh => h0 (h.1 hh))]
theorem qN_shift (X Y i c : Nat) : qN (X * 2 ^ c) Y i = qN X Y (c + i) ∧ qS (X * 2 ^ c) Y i = qS X Y (c + i) := by
  have e : X * 2 ^ c * 2 ^ i = X * 2 ^ (c + i) := by rw [Nat.mul_assoc, ← Nat.pow_add]
  unfold qN qS
  rw [e]
  exact ⟨rfl, rfl⟩
theorem quo_both {p m M1 M2 u v t s k : Nat} (neg : Bool) (h2 : 0 < M2) (hp : p < bl (qN (M1 * 2 ^ u) (M2 * 2 ^ v) t)) (hk : p < bl (qN M1 M2 k)) :
    rQ p m neg (qS (M1 * 2 ^ u) (M2 * 2 ^ v) t) (qN (M1 * 2 ^ u) (M2 * 2 ^ v) t * 2 ^ s) = rQ p m neg 0 (2 * qN M1 M2 k + qS M1 M2 k) ∧
    rA p m neg (qS (M1 * 2 ^ u) (M2 * 2 ^ v) t) (qN (M1 * 2 ^ u) (M2 * 2 ^ v) t * 2 ^ s) = rA p m neg 0 (2 * qN M1 M2 k + qS M1 M2 k) ∧
    ((rk p (qN (M1 * 2 ^ u) (M2 * 2 ^ v) t * 2 ^ s) : Nat) : Int) - s - t - u + v = ((rk p (2 * qN M1 M2 k + qS M1 M2 k) : Nat) : Int) - 1 - k := by
  have a1 : qN (M1 * 2 ^ u) (M2 * 2 ^ v) t = qN M1 (M2 * 2 ^ v) (u + t) ∧ qS (M1 * 2 ^ u) (M2 * 2 ^ v) t = qS M1 (M2 * 2 ^ v) (u + t) := qN_shift M1 (M2 * 2 ^ v) t u
  have a2 : qN M1 M2 k = qN M1 (M2 * 2 ^ v) (v + k) ∧ qS M1 M2 k = qS M1 (M2 * 2 ^ v) (v + k) := by
    have h := qN_scale (X := M1) (Y := M2) (i := k) (Nat.two_pow_pos v)
    have h' := qN_shift M1 (M2 * 2 ^ v) k v
    exact ⟨h.1.symm.trans h'.1, h.2.symm.trans h'.2⟩
  rw [a1.1] at hp
  rw [a2.1] at hk
  rw [a1.1, a1.2, a2.1, a2.2]
  have hY : 0 < M2 * 2 ^ v := Nat.mul_pos h2 (Nat.two_pow_pos v)
  obtain ⟨b1, b2, b3⟩ := quo_round (m := m) neg hY hp hk
  obtain ⟨c1, c2, c3⟩ := round_mark (m := m) neg hk (qS_le M1 (M2 * 2 ^ v) (v + k))
  have hl := qS_le M1 (M2 * 2 ^ v) (u + t)
  obtain ⟨d1, d2, d3⟩ := round_more (m := m) (s := qS M1 (M2 * 2 ^ v) (u + t)) (s' := qS M1 (M2 * 2 ^ v) (u + t)) (t := s) (low := 0) neg (Nat.two_pow_pos s) hp hl (fun h => ⟨rfl, h⟩) (fun h hc => by have := hc.2; omega)
  rw [Nat.add_zero] at d1 d2 d3
  refine ⟨by rw [d2, c2, b2], by rw [d3, c3, b3], ?_⟩
  rw [d1, c1]
  omega
theorem bl_quo {X Y a b p : Nat} (hY : 0 < Y) (hX : 2 ^ a ≤ X) (hb : Y < 2 ^ b) (h : b + p ≤ a) : p < bl (X / Y) := by
  refine bl_gt ?_
  rw [Nat.le_div_iff_mul_le hY]
  have h1 : 2 ^ p * Y ≤ 2 ^ p * 2 ^ b := Nat.mul_le_mul_left _ (Nat.le_of_lt hb)
  have h2 : 2 ^ p * 2 ^ b ≤ 2 ^ a := by rw [← Nat.pow_add]; exact Nat.pow_le_pow_right (by decide) (by omega)
  omega
end Go.Proofs.YtbghmceglemppaaGreatDoor

/-
Float.uquo of a new receiver: UNDER WAY. No condition but the threshold of recursive division.
-/
namespace Go.Proofs.YtbghmceglemppaaGreatDoor
open Go.RowKit

/-- The numerator's words, with words of zero below them. -/
structure QuS (L X : Nat) (w : World) (W : World) (ad : Value) : Prop where
  isS : IsS ad
  len : sLen ad = L
  ro : RO W ad (wds X)
  bl : Below w.heap.size w W
theorem wds_shl {M lx dd : Nat} (h : nw M = lx) (h0 : 0 < M) : wds (M * 18446744073709551616 ^ dd) = List.replicate dd 0 ++ wds M := by
  have h1 : ∀ d ∈ List.replicate dd 0 ++ wds M, d < 18446744073709551616 := by
    intro d hd
    rcases List.mem_append.1 hd with h | h
    · rw [List.eq_of_mem_replicate h]; decide
    · exact wds_lt h
  have hz0 : ∀ j, wv (List.replicate j 0) = 0 := fun j => by
    induction j with
    | zero => rfl
    | succ j ih => rw [List.replicate_succ]; simp [wv, ih]
  have h2 : wv (List.replicate dd 0 ++ wds M) = M * 18446744073709551616 ^ dd := by
    rw [wv_append, hz0, List.length_replicate, wv_wds, Nat.zero_add, Nat.mul_comm]
  have h3 : nw (M * 18446744073709551616 ^ dd) = dd + lx := by
    have hp : 0 < M * 18446744073709551616 ^ dd := Nat.mul_pos h0 (Nat.pow_pos (by decide))
    rw [nw_bl hp, w_two, bl_mul h0, ← h, nw_bl h0]
    omega
  have h4 := wds_of h1 (by rw [h2, h3, List.length_append, List.length_replicate, wds_length, h])
  rw [h2] at h4
  exact h4.symm
/-- What lies once the division is done: the receiver, its words, the stack. -/
structure QuW (b B K s p m f : Nat) (a e : Int) (nz : Bool) (q : Value) (xs : List Nat) (o : Option (Nat × Value)) (w W : World) : Prop where
  flt : FltR W b p m a f nz q e
  own : Own W K 181 q (cellsW xs)
  st : StO W K s 0 o
  nsq : 0 < sCap q → ¬ SBk s o (sBlk q)
  bl : Below B w W
  bk : b < K
  bb : B ≤ b
section
variable {b B K s p m f : Nat} {a e : Int} {nz : Bool} {q : Value} {xs : List Nat} {o : Option (Nat × Value)} {w W : World}
theorem QuW.ofDiv {Q : Nat} {V w6 : World} (d : DvS (.slice none 0 0) q Q K s none o V w6) (hz : FltR V b p m a f nz (.slice none 0 0) e) (hbl : Below B w V) (bk : b < K) (bb : B ≤ b) :
    FltR w6 b p m a f nz (.slice none 0 0) e ∧ QuW b B K s p m f a e nz q (wds Q) o w (w6.setCell ⟨b, 5, none⟩ q) := by
  have h6 : FltR w6 b p m a f nz (.slice none 0 0) e := (d.below.block b bk).trans hz
  refine ⟨h6, h6.s5 q, h6.own d.own 5 q, d.st.keep fun k hk => heap_setCell_other _ _ _ _ ?_, d.nsq, bset (hbl.trans (d.below.mono (by omega))) bb, bk, bb⟩
  have := (d.st.base hk).1
  simp only; omega
theorem QuW.turn {ys : List Nat} {W' : World} (h : QuW b B K s p m f a e nz q xs o w W) (ho : Own W' K 181 q (cellsW ys)) (hb : Below K W W') (hn : Only (sBlk q) W W') (hc : 0 < sCap q) : QuW b B K s p m f a e nz q ys o w W' := by
  have h1 := (h.own.lt hc).1
  have h2 := h.bk
  have h3 := h.bb
  refine ⟨(hn b h.flt.lt (by omega)).trans h.flt, ho, h.st.keep fun k hk => hn k (h.st.base hk).2 fun he => h.nsq hc (he ▸ hk), h.nsq, h.bl.trans (hb.mono (by omega)), h.bk, h.bb⟩
theorem QuW.drewN (h : QuW b B K s p m f a e nz q xs o w W) (k : Nat) : QuW b B K s p m f a e nz q xs o w (W.drewN k) :=
  ⟨h.flt, h.own.drewN k, h.st.keep fun _ _ => rfl, h.nsq, undrewN' h.bl, h.bk, h.bb⟩
theorem FVal.low {w : World} {B K b p m f : Nat} {a : Int} {neg : Bool} {M : Nat} {X : Int} (h : FVal w K b p m a f neg M X) (hB : B ≤ K) : FVal w B b p m a f neg M X := by
  obtain ⟨v, e, h1, h2⟩ := h
  exact ⟨v, e, h1, fun hf => by
    obtain ⟨k1, ws, k2, k3⟩ := h2 hf
    exact ⟨k1, ws, k2.mono hB, k3⟩⟩
theorem QuW.fin0 {sb N : Nat} {X : Int} {W' : World} (h : QuW b B K s p m f a e nz q xs none w W) (hr : RndQ (sBlk q) K b p m nz sb N X W W') (hc : 0 < sCap q) (hN : 0 < rQ p m nz sb N) :
    W'.cell? ⟨s, 0, none⟩ = some (.pointer none) ∧ FVal W' B b p m (rA p m nz sb N) 1 nz (rQ p m nz sb N) (X + rk p N) ∧ Below B w W' := by
  have hv := hr.val hN
  obtain ⟨v, ws, e', h1, h2, h3, h4, h5, h6⟩ := hr
  have k1 := (h.own.lt hc).1
  have k2 := h.bk
  have k3 := h.bb
  have hlt := h.flt.lt
  obtain ⟨g0, g1, -⟩ := h.st
  have hk : SBk s (none : Option (Nat × Value)) s := .inl rfl
  have hs := (h6.block s (h.st.base hk).2 (by omega) fun he => h.nsq hc (he ▸ hk)).trans g1
  exact ⟨(row_at (i := 0) hs rfl).1, hv.low (by omega), h.bl.trans (h6.below k3 (by omega) (by omega))⟩
theorem QuW.fins {sb N q0 : Nat} {v0 : Value} {X : Int} {W' : World} (h : QuW b B K s p m f a e nz q xs (some (q0, v0)) w W) (hr : RndQ (sBlk q) K b p m nz sb N X W W') (hc : 0 < sCap q) (hN : 0 < rQ p m nz sb N) :
    W'.heap[s]? = some (.cells #[.pointer (some ⟨q0, 0, none⟩)] 226 (0, 0)) ∧ W'.heap[q0]? = some (.cells #[v0] 257 (0, 0)) ∧ IsS v0 ∧
      FVal (W'.setCell ⟨q0, 0, none⟩ (subS v0 0 0)) B b p m (rA p m nz sb N) 1 nz (rQ p m nz sb N) (X + rk p N) ∧ Below B w (W'.setCell ⟨q0, 0, none⟩ (subS v0 0 0)) := by
  obtain ⟨v, ws, e', h1, h2, h3, h4, h5, h6⟩ := hr
  have k1 := (h.own.lt hc).1
  have k2 := h.bk
  have k3 := h.bb
  have hlt := h.flt.lt
  obtain ⟨g0, g00, g1, g2, ys, g3, -⟩ := h.st
  simp only at g1 g2 g3 g00
  have hk : SBk s (some (q0, v0)) s := .inl rfl
  have hq : SBk s (some (q0, v0)) q0 := .inr ⟨_, rfl, .inl rfl⟩
  have hs := (h6.block s (h.st.base hk).2 (by omega) fun he => h.nsq hc (he ▸ hk)).trans g1
  have hi := (h6.block q0 (h.st.base hq).2 (by omega) fun he => h.nsq hc (he ▸ hq)).trans g2
  have hne : q0 ≠ sBlk q := fun he => h.nsq hc (he ▸ hq)
  refine ⟨hs, hi, g3.isS, ⟨v, e', (heap_setCell_other _ _ _ _ (by simp only; omega)).trans h1, fun _ => ⟨hN, ws, (h2.mono (by omega)).same fun _ => heap_setCell_other _ _ _ _ (by simp only; omega), h3, h4⟩⟩, bset (h.bl.trans (h6.below k3 (by omega) (by omega))) (by omega)⟩
end
set_option maxRecDepth 100000 in
set_option maxHeartbeats 6400000 in
theorem uquo_at (b B B1 B2 g1 g2 p m p1 m1 p2 m2 f0 M N : Nat) (a0 e0 E F : Int) (nz n1 n2 : Bool) (w : World) (h : FltR w b p m a0 f0 nz (.slice none 0 0) e0) (hB : B ≤ b) (h1 : FloatAt w B1 g1 p1 m1 1 n1 M E) (h2 : FloatAt w B2 g2 p2 m2 1 n2 N F)
    (hM : 0 < M) (hN : 0 < N) (hp1 : bl M ≤ p1) (hp2 : bl N ≤ p2) (hbM : bl M ≤ 2400) (hbN : bl N ≤ 2400) (hE : -1050000000 ≤ E ∧ E ≤ 1050000000) (hF : -1050000000 ≤ F ∧ F ≤ 1050000000) (hEF : -1700000000 ≤ E - F ∧ E - F ≤ 1700000000) (hb1 : b ≠ g1) (hb2 : b ≠ g2) (hp0 : 0 < p) (hp : p ≤ 64000) (hm : m ≤ 5) (hT : DivW w) (dg : 4 < B) (k : Nat) (hk : p < bl (qN M N k)) :
    Calls Tryz.prog 147 #[.pointer (some ⟨b, 0, none⟩), .pointer (some ⟨g1, 0, none⟩), .pointer (some ⟨g2, 0, none⟩)] w fun e' w' => e' = .returned (.tuple #[]) ∧
      FVal w' B b p m (rA p m nz 0 (2 * qN M N k + qS M N k)) 1 nz (rQ p m nz 0 (2 * qN M N k + qS M N k)) (E - F - k - 1 + rk p (2 * qN M N k + qS M N k)) ∧ Below B w w' := by
  obtain ⟨vx, ex, hx, hox, hgx, -, hex, -⟩ := h1.open hM hp1 (by omega)
  obtain ⟨vy, ey, hy, hoy, hgy, -, hey, -⟩ := h2.open hN hp2 (by omega)
  obtain ⟨c0, c1, c2, c3, c4, c5, c6⟩ := h.cells
  obtain ⟨x0, x1, x2, x3, x4, x5, x6⟩ := hx.cells
  obtain ⟨y0, y1, y2, y3, y4, y5, y6⟩ := hy.cells
  have hSx := hox.isS
  have hSy := hoy.isS
  obtain ⟨lx, hlx⟩ : ∃ l, l = nw M := ⟨_, rfl⟩
  obtain ⟨ly, hly⟩ : ∃ l, l = nw N := ⟨_, rfl⟩
  have hLx : sLen vx = lx := by rw [hox.len, cellsW_length, topN_length, hlx]
  have hLy : sLen vy = ly := by rw [hoy.len, cellsW_length, topN_length, hly]
  have hlxb : lx ≤ 38 := by rw [hlx]; exact nw_of_bl (by omega)
  have hlyb : ly ≤ 38 := by rw [hly]; exact nw_of_bl (by omega)
  obtain ⟨n0, hn0⟩ : ∃ n, n = p / 64 := ⟨_, rfl⟩
  have hn0b : n0 ≤ 1000 := by omega
  obtain ⟨dI, hdI⟩ : ∃ d : Int, d = (n0 : Int) + 1 - (lx : Int) + (ly : Int) := ⟨_, rfl⟩
  have e1 : (p : Int) / 64 = (n0 : Int) := by omega
  have e1' : (p : Int).tdiv 64 = (n0 : Int) := by rw [hn0]; rfl
  have e2 : IntKind.u32.wrap (n0 : Int) = (n0 : Int) := by rw [IntKind.wrap_u32]; omega
  have e3 : IntKind.i64.wrap (n0 : Int) = (n0 : Int) := wrap_i64_id (by omega) (by omega)
  have e4 : IntKind.i64.wrap ((n0 : Int) + 1) = (n0 : Int) + 1 := wrap_i64_id (by omega) (by omega)
  have e5 : IntKind.i64.wrap ((n0 : Int) + 1 - (lx : Int)) = (n0 : Int) + 1 - (lx : Int) := wrap_i64_id (by omega) (by omega)
  have e6 : IntKind.i64.wrap ((n0 : Int) + 1 - (lx : Int) + (ly : Int)) = dI := by rw [← hdI]; exact wrap_i64_id (by omega) (by omega)
  have hQo : ∀ w', (Ending.outgrown = Ending.returned (.tuple #[]) ∧ FVal w' B b p m (rA p m nz 0 (2 * qN M N k + qS M N k)) 1 nz (rQ p m nz 0 (2 * qN M N k + qS M N k)) (E - F - k - 1 + rk p (2 * qN M N k + qS M N k)) ∧ Below B w w') → False := fun _ h => by cases h.1
  obtain ⟨dd, hdd⟩ : ∃ d, d = n0 + 1 + ly - lx := ⟨_, rfl⟩
  obtain ⟨u, hu⟩ : ∃ u, u = 64 * nw M - bl M := ⟨_, rfl⟩
  obtain ⟨v, hv⟩ : ∃ v, v = 64 * nw N - bl N := ⟨_, rfl⟩
  obtain ⟨L, hL⟩ : ∃ l, l = lx + dd := ⟨_, rfl⟩
  have hwx : wv (topN M) = M * 2 ^ u := by rw [hu]; exact topN_wv hM
  have hroX : RO w vx (wds (M * 2 ^ u)) := by rw [← hwx, ← hgx.wds]; exact hox.ro topN_lt
  have hroY : RO w vy (wds (N * 2 ^ v)) := by rw [hv, ← topN_wv hN, ← hgy.wds]; exact hoy.ro topN_lt
  have hX0 : 0 < M * 2 ^ u := Nat.mul_pos hM (Nat.two_pow_pos _)
  have hnX : nw (M * 2 ^ u) = lx := by rw [← hwx, ← wds_length, ← hgx.wds, topN_length, hlx]
  have HRX := Lib.hid (And.intro hroX (And.intro hroY (And.intro hX0 hnX)))
  have HDD := Lib.hid (And.intro hdd (And.intro hu (And.intro hv hL)))
  have hddb : dd ≤ 1100 := by omega
  have HH := Lib.hid h
  have HX := Lib.hid (And.intro hx (And.intro hox hgx))
  have HY := Lib.hid (And.intro hy (And.intro hoy hgy))
  have HE := Lib.hid (And.intro hlx (And.intro hly (And.intro hn0 (And.intro hdI (And.intro hex hey)))))
  have HC := Lib.hid (And.intro hM (And.intro hN (And.intro hp1 (And.intro hp2 (And.intro hbM (And.intro hbN (And.intro hE (And.intro hF (And.intro hEF (And.intro hb1 (And.intro hb2 (And.intro hp0 (And.intro hp (And.intro hm (And.intro hT (And.intro dg hk))))))))))))))))
  clear h hx hox hgx hy hoy hgy hlx hly hn0 hdI hex hey hM hN hp1 hp2 hbM hbN hE hF hEF hb1 hb2 hp0 hp hm hT dg hk h1 h2 hdd hu hv hL hwx hroX hroY hX0 hnX
  go_enter_defers Tryz.func147, Tryz.ntmps147
  go_upto_region 2 with fail
  (refine wp_region_noPanic ?_; refine wp_region_hoist 14 (by kernel_rfl) (by kernel_rfl) ⟨fun _ _ _ h => h, fun _ w'' h => hQo w'' h⟩ ?_; simp only [List.take_succ_cons, List.take_zero, List.drop_succ_cons, List.drop_zero]; (repeat (go_big_quiet_step (fail))); refine wpQuiet_nil ?_; rintro _ ⟨nq, rfl⟩)
  go_wp2_with fail
  refine NoPanic.normal ?_
  have HE0 := Lib.hid (show (0 < dI ∧ dI = (dd : Int)) ∨ (dI ≤ 0 ∧ dd = 0) by
    obtain ⟨a, b, c, d, -⟩ := HE.out
    have := HDD.out.1
    omega)
  go_upto_if 39 with fail
  go_cut [7] from 38 to 56 (fun s7 wx => ∃ ad, s7 = ad ∧ QuS L (M * 2 ^ u * 18446744073709551616 ^ dd) w wx ad)
  case first =>
    rcases HE0.out with ⟨hd1, hd2⟩ | ⟨hd1, hd2⟩
    · have HNW : Hid (nw (M * 2 ^ u) = lx) := Lib.hid HRX.out.2.2.2
      subst hd2
      have e7 : (lx : Int) + (dd : Int) = (L : Int) := by have := HDD.out.2.2.2; omega
      have e7' : IntKind.i64.wrap ((lx : Int) + (dd : Int)) = (L : Int) := by rw [e7]; exact wrap_i64_id (by omega) (by have := HDD.out.2.2.2; omega)
      have hdd0 : 0 < dd := by omega
      have hLb : L ≤ 1200 := by have := HDD.out.2.2.2; omega
      have HLX : Hid (0 < lx ∧ L = lx + dd) := Lib.hid ⟨by rw [HE.out.1]; exact nw_pos HC.out.1, HDD.out.2.2.2⟩
      have hdL : dd ≤ L := by have := HDD.out.2.2.2; omega
      go_wp2_with (at_make; refine wpList_make_O rfl _ _ _ rfl elemT .i64 .i64 _ _ rfl rfl w.heap.size ?c1 ?c2 ?c3 ?c4 ?c5 ?_)
      all_goals first | omega | exact Nat.le_refl _ | skip
      intro ad w1 had ho hb hz
      have hb' : Below w.heap.size w w1 := undrewN hb
      have hSz := ho.isS
      have hLz : sLen ad = L := by rw [ho.len]; simp
      have hcz : L ≤ sCap ad := by have := hSz.le; omega
      have hSk : IsS (subS ad dd L) := subS_isS hSz hdL hcz
      have hX1 := HX.out.1.below hb'
      obtain ⟨-, -, -, -, -, x5, -⟩ := hX1.cells
      have hsub := ho.sub (l := dd) (n := L) hdL (by simp)
      have HQS : Hid (∀ (j : Nat) (w2 : World), Own w2 w.heap.size 181 (subS ad dd L) (cellsW (topN M)) → Below w.heap.size (w1.drewN j) w2 → FrB (sBlk (subS ad dd L)) (sOff (subS ad dd L)) (sOff (subS ad dd L) + (L - dd)) (w1.drewN j) w2 → QuS L (M * 2 ^ u * 18446744073709551616 ^ dd) w w2 ad) := Lib.hid (fun j w2 k1 k2 k3 => by
        have hbk : sBlk (subS ad dd L) = sBlk ad := subS_blk hSz
        have hof : sOff (subS ad dd L) = sOff ad + dd := subS_off hSz (by have := HLX.out; omega)
        rw [hbk, hof, show sOff ad + dd + (L - dd) = sOff ad + L by omega] at k3
        have hL2 := HDD.out.2.2.2
        have hwx : wv (topN M) = M * 2 ^ u := by rw [HDD.out.2.1]; exact topN_wv HC.out.1
        have hle : (cellsW (topN M)).length = L - dd := by rw [cellsW_length, topN_length, ← HE.out.1]; omega
        have hp := Own.patch (ho.drewN j) hdL (by simp) hle k1 k3
        have ht1 : (List.replicate L (Value.int .u64 0)).take dd = List.replicate dd (Value.int .u64 0) := by rw [List.take_replicate]; congr 1; omega
        have ht2 : (List.replicate L (Value.int .u64 0)).drop L = [] := by simp
        rw [ht1, ht2, List.append_nil, cellsW_zeros, cellsW_append] at hp
        have hw : wds (M * 2 ^ u * 18446744073709551616 ^ dd) = List.replicate dd 0 ++ topN M := by
          rw [wds_shl HNW.out HRX.out.2.2.1, ← hwx, ← HX.out.2.2.wds]
        refine ⟨hSz, hLz, ?_, hb'.trans (undrewN k2)⟩
        rw [hw]
        refine hp.ro fun e he => ?_
        rcases List.mem_append.1 he with h | h
        · rw [List.eq_of_mem_replicate h]; decide
        · exact topN_lt e h)
      have HSUB := Lib.hid hsub
      have HXA : Hid (∀ j, ∀ i v, (cellsW (topN M))[i]? = some v → (w1.drewN j).cell? ⟨sBlk vx, sOff vx + i, none⟩ = some v) := Lib.hid (fun j => by
        have h1 := (HRX.out.1.below hb').rw
        have hwx : wv (topN M) = M * 2 ^ u := by rw [HDD.out.2.1]; exact topN_wv HC.out.1
        rw [← hwx, ← HX.out.2.2.wds] at h1
        exact h1.at)
      clear had hz ho hb hb' hsub hX1 x0 x1 x2 x3 x4 x6 y0 y1 y2 y3 y4 y6 c0 c1 c2 c3 c4 c5 c6
      go_upto_region 5 with fail
      (refine wp_region_noPanic ?_; refine wp_region_hoist 7 (by kernel_rfl) (by kernel_rfl) ⟨fun _ _ _ h => h, fun _ w'' h => hQo w'' h⟩ ?_; simp only [List.take_succ_cons, List.take_zero, List.drop_succ_cons, List.drop_zero]; (repeat (go_big_quiet_step (fail))); refine wpQuiet_nil ?_; rintro _ ⟨nq, rfl⟩)
      go_wp2_with (refine wpList_copy_W (o := ⟨some 55, _, _, _, _, _⟩) rfl (.tmp 50) (.tmp 54) 109 109 rfl 181 Tryz.underlying109 sizeW (subS ad dd L) vx rfl rfl w.heap.size _ (HSUB.out.drewN _) (cellsW (topN M)) ?d1 hSx ?d2 ?d3 (cellsW_one _) ?_)
      case d1 => rw [cellsW_length, topN_length, ← HE.out.1]; simp; have := HDD.out.2.2.2; omega
      case d2 => rw [cellsW_length, topN_length, ← HE.out.1]; exact hLx
      case d3 => exact HXA.out _
      intro w2 k1 k2 k3 _
      have HQ := Lib.hid (HQS.out _ w2 k1 k2 k3)
      clear k1 k2 k3
      go_wp2_with fail
      refine NoPanic.normal ?_
      go_wp2
      go_meet
      case rel => exact ⟨ad, rfl, HQ.out⟩
    · have td : decide (dI > 0) = false := decide_eq_false (by omega)
      have td' : decide (0 < dI) = false := decide_eq_false (by omega)
      have HQS : Hid (∀ k, QuS L (M * 2 ^ u * 18446744073709551616 ^ dd) w (w.drewN k) vx) := Lib.hid (fun k => by
        refine ⟨hSx, by rw [hLx, HDD.out.2.2.2, hd2, Nat.add_zero], ?_, undrewN' (Below.refl _ _)⟩
        rw [hd2, Nat.pow_zero, Nat.mul_one]
        exact HRX.out.1.below (undrewN' (Below.refl _ _)))
      clear hd2
      go_wp2
      all_goals first | (exfalso; omega) | (go_meet; case rel => exact ⟨vx, rfl, HQS.out _⟩)
  case rest =>
    obtain ⟨ad, had, hqs⟩ := hcut
    have had := had.symm
    subst had
    have HQS := Lib.hid hqs
    have hSa := hqs.isS
    have hLa := hqs.len
    have HZ := Lib.hid (HH.out.below hqs.bl)
    have HX1 := Lib.hid (HX.out.1.below hqs.bl)
    have HY1 := Lib.hid (HY.out.1.below hqs.bl)
    have HT1 := Lib.hid (HC.out.2.2.2.2.2.2.2.2.2.2.2.2.2.2.1.below hqs.bl)
    clear hqs x0 x1 x2 x3 x4 x5 x6 y0 y1 y2 y3 y4 y5 y6 c0 c1 c2 c3 c4 c5 c6
    obtain ⟨-, -, -, -, -, y5, -⟩ := HY1.out.cells
    obtain ⟨g, hg⟩ : ∃ g, g = L - ly := ⟨_, rfl⟩
    have hLg : L = ly + g ∧ n0 + 1 ≤ g ∧ g ≤ 1200 := by have := HDD.out; omega
    obtain ⟨hLg1, hLg2, hLg3⟩ := hLg
    have e8 : (L : Int) - (ly : Int) = (g : Int) := by omega
    have e8' : IntKind.i64.wrap (g : Int) = (g : Int) := wrap_i64_id (by omega) (by omega)
    have HLG := Lib.hid hLg1
    clear hg hLg1
    go_wp2_with fail
    refine (getStack_any _).mono ?_
    rintro _ _ ⟨rfl, rfl⟩
    obtain ⟨K, hK⟩ : ∃ K, K = wc.heap.size := ⟨_, rfl⟩
    obtain ⟨V, hV⟩ : ∃ V, V = wc.alloc (.cells #[.pointer none] 226) := ⟨_, rfl⟩
    rw [← hV, ← hK]
    have hbV : Below wc.heap.size wc V := by rw [hV]; exact fbone _
    have rs : V.heap[K]? = some (.cells #[.pointer none] 226 (0, 0)) := by rw [hV, hK]; exact heap_alloc_new _ _
    have hVz : V.heap.size = K + 1 := by rw [hV, hK]; simp
    have HZV := Lib.hid (HZ.out.below hbV)
    have HXV := Lib.hid (HX1.out.below hbV)
    have HYV := Lib.hid (HY1.out.below hbV)
    have hg1K : g1 < K := by rw [hK]; exact HX1.out.lt
    have hg2K : g2 < K := by rw [hK]; exact HY1.out.lt
    have hbK : b < K := by rw [hK]; exact HZ.out.lt
    have hBw : B ≤ w.heap.size := Nat.le_trans hB (Nat.le_of_lt HH.out.lt)
    have hBV : Below B w V := (HQS.out.bl.mono hBw).trans (hbV.mono (by have := HQS.out.bl.size; omega))
    obtain ⟨Q, hQ⟩ : ∃ Q, Q = M * 2 ^ u * 18446744073709551616 ^ dd / (N * 2 ^ v) := ⟨_, rfl⟩
    obtain ⟨R, hR⟩ : ∃ R, R = M * 2 ^ u * 18446744073709551616 ^ dd % (N * 2 ^ v) := ⟨_, rfl⟩
    have hD0 : 0 < N * 2 ^ v := Nat.mul_pos HC.out.2.1 (Nat.two_pow_pos _)
    have hNX0 : 0 < M * 2 ^ u * 18446744073709551616 ^ dd := Nat.mul_pos HRX.out.2.2.1 (Nat.pow_pos (by decide))
    have hwX : wds (M * 2 ^ u * 18446744073709551616 ^ dd) = List.replicate dd 0 ++ wds (M * 2 ^ u) := wds_shl HRX.out.2.2.2 HRX.out.2.2.1
    have hnX : nw (M * 2 ^ u * 18446744073709551616 ^ dd) = L := by
      rw [← wds_length, hwX, List.length_append, List.length_replicate, wds_length, HRX.out.2.2.2, HDD.out.2.2.2]; omega
    have hnD : nw (N * 2 ^ v) = ly := by
      have h := topN_wv HC.out.2.1
      rw [← HDD.out.2.2.1] at h
      rw [← h, ← wds_length, ← HY.out.2.2.wds, topN_length, HE.out.2.1]
    have hsA : sBlk ad ≠ K := by
      obtain ⟨c, hc⟩ := HQS.out.ro.row (by rw [wds_length, hnX]; omega)
      have := get_lt hc
      omega
    have hsY : sBlk vy ≠ K := by
      have h1 := HRX.out.2.1
      obtain ⟨c, hc⟩ := h1.row (by rw [wds_length, hnD, HE.out.2.1]; exact nw_pos HC.out.2.1)
      have h2 := get_lt hc
      have h3 := HQS.out.bl.size
      omega
    have HDIV : Hid (∀ k, Calls Tryz.prog 182 #[.slice none 0 0, .pointer (some ⟨K, 0, none⟩), .slice none 0 0, ad, vy] (V.drewN k) fun e w6 => ∃ q r, e = .returned (.tuple #[q, r]) ∧ IsS q ∧ IsS r ∧ sLen q = nw Q ∧ sLen r = nw R ∧ FltR w6 b p m a0 f0 nz (.slice none 0 0) e0 ∧
        FltR (w6.setCell ⟨b, 5, none⟩ q) g1 p1 m1 0 1 n1 vx ex ∧ FltR (w6.setCell ⟨b, 5, none⟩ q) g2 p2 m2 0 1 n2 vy ey ∧ ∃ o', QuW b B K K p m f0 a0 e0 nz q (wds Q) o' w (w6.setCell ⟨b, 5, none⟩ q)) := Lib.hid (fun k => by
      have hb2 : Below wc.heap.size wc (V.drewN k) := undrewN' hbV
      refine (div_to (.slice none 0 0) ad vy [] (M * 2 ^ u * 18446744073709551616 ^ dd) (N * 2 ^ v) K K none (V.drewN k) ⟨Nat.le_refl _, rs, rfl⟩ (Own.nil _ _ _) (fun h => absurd h nil_cap) (HQS.out.ro.below hb2) (Al.nil _) (fun h => ?_) ((HRX.out.2.1.below HQS.out.bl).below hb2) (fun h => ?_) hD0 (by omega) (by omega) (by show K ≤ V.heap.size; omega) (HT1.out.below hb2) (Nat.lt_of_lt_of_le HC.out.2.2.2.2.2.2.2.2.2.2.2.2.2.2.2.1 (by omega))).mono ?_
      · rcases h with h | ⟨_, h, _⟩
        · exact hsA h
        · cases h
      · rcases h with h | ⟨_, h, _⟩
        · exact hsY h
        · cases h
      rintro _ w6 ⟨q, r, rfl, o', hd, hr, -⟩
      rw [← hQ] at hd
      rw [← hR] at hr
      obtain ⟨k1, k2⟩ := QuW.ofDiv hd (show FltR (V.drewN k) b p m a0 f0 nz (.slice none 0 0) e0 from HZV.out) (undrewN' hBV) hbK hB
      refine ⟨q, r, rfl, hd.own.isS, hr.isS, by rw [hd.own.len, cellsW_length, wds_length], by rw [hr.len, cellsW_length, wds_length], k1, ?_, ?_, o', k2⟩
      · exact (heap_setCell_other _ _ _ _ (by simpa using HC.out.2.2.2.2.2.2.2.2.2.1.symm)).trans ((hd.below.block g1 hg1K).trans HXV.out)
      · exact (heap_setCell_other _ _ _ _ (by simpa using HC.out.2.2.2.2.2.2.2.2.2.2.1.symm)).trans ((hd.below.block g2 hg2K).trans HYV.out))
    have hk0 : 0 < 2 * qN M N k + qS M N k := by
      have h1 := HC.out.2.2.2.2.2.2.2.2.2.2.2.2.2.2.2.2
      have : 0 < qN M N k := by
        refine Nat.pos_of_ne_zero fun h0 => ?_
        rw [h0, bl_zero] at h1; omega
      omega
    have hpQ : p < bl Q := by
      rw [hQ]
      refine bl_quo (a := 64 * L - 1) (b := 64 * ly) hD0 ?_ ?_ ?_
      · have h1 := nw_bl (n := M * 2 ^ u) HRX.out.2.2.1
        have h2 : bl (M * 2 ^ u) = 64 * lx := by
          rw [bl_mul HC.out.1]
          have := nw_bl HC.out.1
          have h3 := HDD.out.2.1
          have h4 := HE.out.1
          omega
        have h3 := bl_ge HRX.out.2.2.1
        rw [w_two, h2] at *
        have h4 := Nat.mul_le_mul_right (2 ^ (64 * dd)) h3
        rw [← Nat.pow_add] at h4
        refine Nat.le_trans (Nat.pow_le_pow_right (by decide) ?_) h4
        have := HDD.out.2.2.2
        have := HE.out.1
        have := nw_pos HC.out.1
        omega
      · have h1 := lt_nw (N * 2 ^ v)
        rw [hnD, w_two] at h1
        exact h1
      · have h1 := HE.out.2.2.1
        have h2 := HLG.out
        omega
    have hQ0 : 0 < Q := Nat.pos_of_ne_zero fun h0 => by rw [h0, bl_zero] at hpQ; omega
    have HPQ := Lib.hid (And.intro hpQ hQ0)
    have HQR := Lib.hid (And.intro hQ hR)
    obtain ⟨lq, hlq⟩ : ∃ l, l = nw Q := ⟨_, rfl⟩
    obtain ⟨lr, hlr⟩ : ∃ l, l = nw R := ⟨_, rfl⟩
    obtain ⟨s0, hs0⟩ : ∃ s, s = 64 * nw Q - bl Q := ⟨_, rfl⟩
    obtain ⟨sb, hsb⟩ : ∃ s, s = qS (M * 2 ^ u) (N * 2 ^ v) (64 * dd) := ⟨_, rfl⟩
    have hsb1 : sb ≤ 1 := by rw [hsb]; exact qS_le _ _ _
    have hsb2 : sb = if lr = 0 then 0 else 1 := by
      rw [hsb]
      unfold qS
      rw [← w_two, ← hR, hlr]
      by_cases h0 : R = 0
      · rw [if_pos h0, if_pos (nw_eq_zero.2 h0)]
      · rw [if_neg h0, if_neg (fun h => h0 (nw_eq_zero.1 h))]
    have hlqb : lq ≤ 1300 := by
      rw [hlq]
      refine Nat.le_trans (nw_mono (Nat.le_of_eq hQ)) (Nat.le_trans (nw_mono (Nat.div_le_self _ _)) ?_)
      rw [hnX]; have := HLG.out; omega
    have hlq0 : 0 < lq := by rw [hlq]; exact nw_pos hQ0
    have hs0b : s0 < 64 := by rw [hs0, nw_bl hQ0]; omega
    have hexy : -1800000000 ≤ ex - ey ∧ ex - ey ≤ 1800000000 ∧ -2000000000 ≤ ex ∧ ex ≤ 2000000000 ∧ -2000000000 ≤ ey ∧ ey ≤ 2000000000 := by
      have h1 := HE.out.2.2.2.2
      have h2 := HC.out
      omega
    obtain ⟨hx1, hx2, hx3, hx4, hx5, hx6⟩ := hexy
    obtain ⟨xe, hxe⟩ : ∃ x : Int, x = ex - ey - ((g : Int) - (lq : Int)) * 64 := ⟨_, rfl⟩
    have f1 : IntKind.i64.wrap ex = ex := wrap_i64_id (by omega) (by omega)
    have f2 : IntKind.i64.wrap ey = ey := wrap_i64_id (by omega) (by omega)
    have f3 : IntKind.i64.wrap (ex - ey) = ex - ey := wrap_i64_id (by omega) (by omega)
    have f4 : IntKind.i64.wrap ((g : Int) - (lq : Int)) = (g : Int) - (lq : Int) := wrap_i64_id (by omega) (by omega)
    have f5 : IntKind.i64.wrap (((g : Int) - (lq : Int)) * 64) = ((g : Int) - (lq : Int)) * 64 := wrap_i64_id (by omega) (by omega)
    have f6 : IntKind.i64.wrap (ex - ey - ((g : Int) - (lq : Int)) * 64) = xe := by rw [hxe]; exact wrap_i64_id (by omega) (by omega)
    have f7 : IntKind.i64.wrap (xe - (s0 : Int)) = xe - (s0 : Int) := wrap_i64_id (by omega) (by omega)
    have HFN : Hid (∀ (q : Value) (o : Option (Nat × Value)) (w7 : World), QuW b B K K p m f0 a0 e0 nz q (wds Q) o w w7 → Calls Tryz.prog 174 #[q] w7 fun e w8 => e = .returned (.int .i64 (s0 : Int)) ∧ QuW b B K K p m f0 a0 e0 nz q (topN Q) o w w8) := Lib.hid (fun q o w7 h => by
      have hc : 0 < sCap q := by have h1 := h.own.isS.le; have h2 := h.own.len; rw [cellsW_length, wds_length, ← hlq] at h2; omega
      refine (fnorm_val q Q K w7 h.own hQ0 (by omega)).mono ?_
      rintro _ w8 ⟨rfl, k1, k2, k3⟩
      exact ⟨by rw [hs0], h.turn k1 k2 k3 hc⟩)
    have HSX : Hid (∀ (q : Value) (o : Option (Nat × Value)) (w8 : World), QuW b B K K p m f0 a0 e0 nz q (topN Q) o w w8 → Calls Tryz.prog 173 #[.pointer (some ⟨b, 0, none⟩), .int .i64 (xe - (s0 : Int)), .int .u64 sb] w8 fun e' w9 => e' = .returned (.tuple #[]) ∧ 0 < sCap q ∧ RndQ (sBlk q) K b p m nz sb (Q * 2 ^ s0) (xe - (s0 : Int) - 64 * (lq : Int)) w8 w9) := Lib.hid (fun q o w8 h => by
      have hc : 0 < sCap q := by have h1 := h.own.isS.le; have h2 := h.own.len; rw [cellsW_length, topN_length, ← hlq] at h2; omega
      obtain ⟨t1, t2, t3, t4, t5⟩ := topN_good (p := bl Q) hQ0 (Nat.le_refl _) (by omega)
      have hbq := nw_bl hQ0
      have := setExp_anyX b K p m f0 sb a0 e0 (xe - (s0 : Int)) nz q (topN Q) w8 h.flt h.own topN_lt t1 t4 t2 HC.out.2.2.2.2.2.2.2.2.2.2.2.1 (by have := HC.out.2.2.2.2.2.2.2.2.2.2.2.2.1; omega) HC.out.2.2.2.2.2.2.2.2.2.2.2.2.2.1 hsb1 (.inr (by rw [topN_length]; omega)) (by omega) (by omega)
      rw [topN_wv hQ0, topN_length, ← hs0, ← hlq] at this
      exact this.mono fun _ _ h => ⟨h.1, hc, h.2⟩)
    have hqn : qN (M * 2 ^ u) (N * 2 ^ v) (64 * dd) = Q := by unfold qN; rw [hQ, w_two]
    obtain ⟨z1, z2, z3⟩ := quo_both (p := p) (m := m) (u := u) (v := v) (t := 64 * dd) (s := s0) (k := k) nz HC.out.2.1 (by rw [hqn]; exact hpQ) HC.out.2.2.2.2.2.2.2.2.2.2.2.2.2.2.2.2
    rw [hqn, ← hsb] at z1 z2
    rw [hqn] at z3
    have z4 : xe - (s0 : Int) - 64 * (lq : Int) + (rk p (Q * 2 ^ s0) : Nat) = E - F - (k : Int) - 1 + (rk p (2 * qN M N k + qS M N k) : Nat) := by
      have h1 := HE.out
      have h2 := HDD.out
      have h3 := HLG.out
      have h4 := nw_bl HC.out.1
      have h5 := nw_bl HC.out.2.1
      omega
    have hrq : 0 < rQ p m nz sb (Q * 2 ^ s0) := by
      rw [z1]; exact rQ_pos nz 0 HC.out.2.2.2.2.2.2.2.2.2.2.2.1 hk0
    have HZZ := Lib.hid (And.intro z1 (And.intro z2 (And.intro z4 hrq)))
    rw [← hlq, ← hlr] at HDIV
    have HZ5 := Lib.hid HZV.out
    obtain ⟨-, -, -, -, -, c5, -⟩ := HZV.out.cells
    obtain ⟨-, -, -, -, -, y5v, -⟩ := HYV.out.cells
    have hLY : sLen vy = ly := hLy
    clear y5 e1 e1' e2 e3 e4 e5 e6 hxe hsb hlq hlr hs0 hQ hR hD0 hNX0 hwX hnX hnD hsA hsY hk0 hpQ hQ0 hqn z1 z2 z3 z4 hrq hBw hVz rs hbV hV hK HZV HXV HYV HT1 HX1 HY1 HZ HRX HH HX HY HE HE0 HQS HPQ HQR hLg2 hLg3 e8 e8' hn0b
    go_upto_region 10 with fail
    (refine wp_region_noPanic ?_; refine wp_region_hoistP [0, 1, 2, 3, 5, 6, 7, 8, 9] [4, 10] [] [11, 12, 13, 14, 15, 16, 17, 18] (by kernel_rfl) (by kernel_rfl) ⟨fun _ _ _ h => h, fun _ w'' h => hQo w'' h⟩ ?_; simp only [pickOps, List.flatMap_cons, List.flatMap_nil, Option.toList_some, List.cons_append, List.nil_append, List.getElem?_toArray, List.getElem?_cons_zero, List.getElem?_cons_succ]; (repeat (go_big_quiet_step (fail))); refine wpQuiet_nil ?_; (repeat (go_big_quiet_step (fail))); refine wpQuiet_nil ?_; rintro _ ⟨nq, rfl⟩; (repeat (go_big_quiet_step (fail))); refine wpQuiet_nil ?_)
    go_wp2_with fail
    (with_reducible refine (HDIV.out nq).mono ?_)
    rintro _ w6 ⟨q, r, rfl, hSq, hSr, hLq, hLr, hz6, hx7, hy7, o', hqw⟩
    obtain ⟨-, -, -, -, -, k5, -⟩ := hz6.cells
    obtain ⟨-, -, -, -, -, l5, -⟩ := hz6.free
    obtain ⟨W7, hW7⟩ : ∃ W7, W7 = w6.setCell ⟨b, 5, none⟩ q := ⟨_, rfl⟩
    rw [← hW7] at hx7 hy7 hqw
    have HQW := Lib.hid hqw
    obtain ⟨-, -, -, -, -, -, x6⟩ := hx7.cells
    obtain ⟨-, -, -, -, -, -, y6⟩ := hy7.cells
    obtain ⟨-, -, -, -, -, z5, -⟩ := hqw.flt.cells
    clear hx7 hy7 hqw hz6 HDIV c5 y5v HZ5
    go_wp2_with fail
    refine NoPanic.normal ?_
    rw [← hW7]
    clear hW7 k5 l5
    go_upto_region 11 with fail
    (refine wp_region_noPanic ?_; refine wp_region_hoist 21 (by kernel_rfl) (by kernel_rfl) ⟨fun _ _ _ h => h, fun _ w'' h => hQo w'' h⟩ ?_; simp only [List.take_succ_cons, List.take_zero, List.drop_succ_cons, List.drop_zero]; (repeat (go_big_quiet_step (fail))); refine wpQuiet_nil ?_; rintro _ ⟨nq, rfl⟩)
    go_wp2_with fail
    refine NoPanic.normal ?_
    obtain ⟨W8, hW8⟩ : ∃ W8, W8 = W7.drewN nq := ⟨_, rfl⟩
    have HQ8 := Lib.hid (HQW.out.drewN nq)
    rw [← hW8] at HQ8 ⊢
    clear hW8 x6 y6 z5 HQW
    obtain ⟨-, -, -, -, -, z5, -⟩ := HQ8.out.flt.cells
    go_upto_if 105 with fail
    go_cut [13] from 103 to 105 (fun s13 wx => s13 = .int .u64 sb ∧ W8 = wx)
    case first =>
      by_cases h0 : lr = 0
      · have t0 : decide ((0 : Int) < (lr : Int)) = false := decide_eq_false (by omega)
        have t0' : decide (0 < lr) = false := decide_eq_false (by omega)
        rw [if_pos h0] at hsb2
        have HS := Lib.hid hsb2
        have hp : ¬ 0 < lr := by omega
        clear h0 hsb2
        go_wp2
        all_goals first | (exfalso; omega) | (go_meet; exact ⟨by rw [HS.out]; rfl, rfl⟩)
      · have t0 : decide ((0 : Int) < (lr : Int)) = true := decide_eq_true (by omega)
        have t0' : decide (0 < lr) = true := decide_eq_true (by omega)
        rw [if_neg h0] at hsb2
        have HS := Lib.hid hsb2
        have hp : 0 < lr := by omega
        clear h0 hsb2
        go_wp2
        all_goals first | (exfalso; omega) | (go_meet; exact ⟨by rw [HS.out]; rfl, rfl⟩)
    case rest =>
      obtain ⟨rfl, rfl⟩ := hcut
      clear hsb2
      go_wp2_with fail
      refine (HFN.out _ _ _ HQ8.out).mono ?_
      rintro _ w9 ⟨rfl, hq9⟩
      have HQ9 := Lib.hid hq9
      clear hq9 z5
      go_wp2_with fail
      refine (HSX.out _ _ _ HQ9.out).mono ?_
      rintro _ w10 ⟨rfl, hc, hr10⟩
      have HR := Lib.hid hr10
      have HCC := Lib.hid hc
      clear hr10 hc
      match o', HQ9 with
      | none, HQ9 =>
        have HF := Lib.hid (HQ9.out.fin0 HR.out HCC.out HZZ.out.2.2.2)
        have HFR := Lib.hid (free_d K .returning _ HF.out.1)
        have HFP : Hid (FVal w10 B b p m (rA p m nz 0 (2 * qN M N k + qS M N k)) 1 nz (rQ p m nz 0 (2 * qN M N k + qS M N k)) (E - F - k - 1 + rk p (2 * qN M N k + qS M N k)) ∧ Below B w w10) := Lib.hid (by
          have h := HF.out.2
          rw [HZZ.out.1, HZZ.out.2.1, HZZ.out.2.2.1] at h
          exact h)
        go_wp2
        refine leaves_cons (f := 135) (args := #[.pointer (some ⟨K, 0, none⟩)]) (by simp) (by simp [go_sem]) ?_
        refine HFR.out.mono ?_
        rintro e u' w'' ⟨rfl, rfl, rfl⟩
        simp [Leaves, settle, results, Tryz.results147, go_sem]
        exact HFP.out
      | some (q0, v0), HQ9 =>
        have HF := Lib.hid (HQ9.out.fins HR.out HCC.out HZZ.out.2.2.2)
        have HFR := Lib.hid (free_some K q0 v0 .returning _ HF.out.1 HF.out.2.1 HF.out.2.2.1)
        have HFP : Hid (FVal (w10.setCell ⟨q0, 0, none⟩ (subS v0 0 0)) B b p m (rA p m nz 0 (2 * qN M N k + qS M N k)) 1 nz (rQ p m nz 0 (2 * qN M N k + qS M N k)) (E - F - k - 1 + rk p (2 * qN M N k + qS M N k)) ∧ Below B w (w10.setCell ⟨q0, 0, none⟩ (subS v0 0 0))) := Lib.hid (by
          have h := HF.out.2.2.2
          rw [HZZ.out.1, HZZ.out.2.1, HZZ.out.2.2.1] at h
          exact h)
        go_wp2
        refine leaves_cons (f := 135) (args := #[.pointer (some ⟨K, 0, none⟩)]) (by simp) (by simp [go_sem]) ?_
        refine HFR.out.mono ?_
        rintro e u' w'' ⟨rfl, rfl, rfl⟩
        simp [Leaves, settle, results, Tryz.results147, go_sem]
        exact HFP.out
end Go.Proofs.YtbghmceglemppaaGreatDoor
