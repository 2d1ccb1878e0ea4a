/-
Texts of this proof, joined: FlX StD StF DyA LwB MoA SmA SnA MuD MuE. No condition.
-/
import Derived.Test.YtgclooabjilniaaGreatDoorK14
import Derived.Test.YtgclooabjilniaaGreatDoorK19
import Derived.Test.YtgclooabjilniaaGreatDoorK20
import Derived.Test.YtgclooabjilniaaGreatDoorK21
import Derived.Test.YtgclooabjilniaaGreatDoorK22
import Derived.LaidEqlPtr
/-
The reference's Order of two dyadic values. No condition.
-/
namespace Go.Proofs.YtgclooabjilniaaGreatDoor
open Go.RowKit

theorem dSum (n1 n2 : Bool) (a b : Value) (e1 e2 e : Int) (x y A B : Nat) (w : World) (ha : NatV w a x) (hb : NatV w b y) (hm : min e1 e2 = e) (hs1 : e1 - e = (A : Int)) (hs2 : e2 - e = (B : Int)) (g1 : -2000000000 ≤ e1) (g2 : e1 ≤ 2000000000) (g3 : -2000000000 ≤ e2) (g4 : e2 ≤ 2000000000) (g5 : -2000000000 ≤ e)
    (hx : nl x ≤ 1000000000) (hy : nl y ≤ 1000000000) (hA : A ≤ 4000000000) (hB : B ≤ 4000000000) (hP : nl (x * 2 ^ A) ≤ 1000000000) (hQ : nl (y * 2 ^ B) ≤ 1000000000) :
    Calls Tryz.prog 26 #[.agg #[.bool n1, a, .int .i64 e1], .agg #[.bool n2, b, .int .i64 e2]] w fun e' w' => ∃ r, e' = .returned r ∧ SumP (x * 2 ^ A) (y * 2 ^ B) n1 n2 e w r w' := by
  cases n1 <;> cases n2
  · exact dSum_ff a b e1 e2 e x y A B w ha hb hm hs1 hs2 g1 g2 g3 g4 g5 hx hy hA hB hP hQ
  · exact dSum_ft a b e1 e2 e x y A B w ha hb hm hs1 hs2 g1 g2 g3 g4 g5 hx hy hA hB hP hQ
  · exact dSum_tf a b e1 e2 e x y A B w ha hb hm hs1 hs2 g1 g2 g3 g4 g5 hx hy hA hB hP hQ
  · exact dSum_tt a b e1 e2 e x y A B w ha hb hm hs1 hs2 g1 g2 g3 g4 g5 hx hy hA hB hP hQ
theorem sI_not (n : Bool) (x : Nat) : sI (!n) x = - sI n x := by cases n <;> simp [sI]
theorem sgD_cmp {ng : Bool} {M : Nat} {i j : Int} (h : sI ng M = i - j) : sgD ng M = cmpI i j := by
  unfold sgD
  by_cases h0 : M = 0
  · subst h0
    have : i = j := by cases ng <;> simp [sI] at h <;> omega
    rw [if_pos rfl, this]; unfold cmpI; rw [if_neg (by omega), if_neg (by omega)]
  · rw [if_neg h0]
    cases ng
    · have h' : (M : Int) = i - j := h
      rw [cmpI_gt (by omega)]; rfl
    · have h' : -(M : Int) = i - j := h
      rw [cmpI_lt (by omega)]; rfl
set_option maxRecDepth 100000 in
set_option maxHeartbeats 1600000 in
theorem dOrder (n1 n2 : Bool) (a b : Value) (e1 e2 e : Int) (x y A B : Nat) (w : World) (ha : NatV w a x) (hb : NatV w b y) (hm : min e1 e2 = e) (hs1 : e1 - e = (A : Int)) (hs2 : e2 - e = (B : Int)) (g1 : -2000000000 ≤ e1) (g2 : e1 ≤ 2000000000) (g3 : -2000000000 ≤ e2) (g4 : e2 ≤ 2000000000) (g5 : -2000000000 ≤ e)
    (hx : nl x ≤ 1000000000) (hy : nl y ≤ 1000000000) (hA : A ≤ 4000000000) (hB : B ≤ 4000000000) (hP : nl (x * 2 ^ A) ≤ 1000000000) (hQ : nl (y * 2 ^ B) ≤ 1000000000) :
    Calls Tryz.prog 25 #[.agg #[.bool n1, a, .int .i64 e1], .agg #[.bool n2, b, .int .i64 e2]] w fun e' w' => e' = .returned (.int .i64 (cmpI (sI n1 (x * 2 ^ A)) (sI n2 (y * 2 ^ B)))) ∧ Below w.heap.size w w' := by
  have hSa := ha.isS
  have hSb := hb.isS
  have HS : Hid (∀ W : World, NatV W a x → NatV W b y → Calls Tryz.prog 26 #[.agg #[.bool n1, a, .int .i64 e1], .agg #[.bool (!n2), b, .int .i64 e2]] W fun e' w' => ∃ r, e' = .returned r ∧ SumP (x * 2 ^ A) (y * 2 ^ B) n1 (!n2) e W r w') :=
    Lib.hid fun W h1 h2 => dSum n1 (!n2) a b e1 e2 e x y A B W h1 h2 hm hs1 hs2 g1 g2 g3 g4 g5 hx hy hA hB hP hQ
  clear hm hs1 hs2 g1 g2 g3 g4 g5 hx hy hA hB hP hQ
  have hab := (Below.refl w.heap.size w).alloc (Nat.le_refl _) (.cells #[.bool n1, a, .int .i64 e1] 28)
  have hac := hab.alloc hab.size (.cells #[.bool n2, b, .int .i64 e2] 28)
  obtain ⟨X, hX⟩ : ∃ X, X = (w.alloc (.cells #[.bool n1, a, .int .i64 e1] 28)).alloc (.cells #[.bool n2, b, .int .i64 e2] 28) := ⟨_, rfl⟩
  have hr1 : X.heap[w.heap.size]? = some (.cells #[.bool n1, a, .int .i64 e1] 28 (0, 0)) := by
    rw [hX]; exact keep_row (fbone _) (box_row (Below.refl _ _))
  have hr2 : X.heap[w.heap.size + 1]? = some (.cells #[.bool n2, b, .int .i64 e2] 28 (0, 0)) := by
    rw [hX]
    have := box_row (Below.refl _ ((w.alloc (.cells #[.bool n1, a, .int .i64 e1] 28)).alloc (.cells #[.bool n2, b, .int .i64 e2] 28)))
    simpa using this
  rw [← hX] at hac
  obtain ⟨x0, x1, x2, -, -, -⟩ := row3 hr1
  obtain ⟨y0, y1, y2, -, -, -⟩ := row3 hr2
  have NA := Lib.hid (ha.below hac)
  have NB := Lib.hid (hb.below hac)
  have HW := Lib.hid hac
  have hXs := hac.size
  have hcc := Below.refl X.heap.size X
  obtain ⟨P, hP⟩ : ∃ P, P = x * 2 ^ A := ⟨_, rfl⟩
  obtain ⟨Q, hQ⟩ : ∃ Q, Q = y * 2 ^ B := ⟨_, rfl⟩
  rw [← hP, ← hQ] at HS ⊢
  clear hr1 hr2 hab hac ha hb hP hQ
  go_enter Tryz.func25, Tryz.ntmps25
  go_upto_region 1 with fail
  rw [← hX]
  clear hX
  first
    | (go_region_held3 (fun w' => w'.cell? ⟨w.heap.size, 0, none⟩ = some (.bool n1) ∧ w'.cell? ⟨w.heap.size, 1, none⟩ = some a ∧ w'.cell? ⟨w.heap.size, 2, none⟩ = some (.int .i64 e1) ∧ w'.cell? ⟨w.heap.size + 1, 0, none⟩ = some (.bool n2) ∧ w'.cell? ⟨w.heap.size + 1, 1, none⟩ = some b ∧ w'.cell? ⟨w.heap.size + 1, 2, none⟩ = some (.int .i64 e2))
        ((refine ks6 x0 x1 x2 y0 y1 y2 ?_; first | assumption | exact Below.drew hcc))
        (first
          | (go_at_call 29; refine (dOpp n2 b e2 _ hSb).mono ?_; rintro _ w3 ⟨rfl, hb3⟩; have hb3 : Below X.heap.size X w3 := bthen (Below.drew hcc) hb3)
          | (go_at_call 26; refine (HS.out _ (NA.out.below hb3) (NB.out.below hb3)).mono ?_; rintro _ w4 ⟨_, rfl, ng, M, ⟨q, rfl, hq⟩, hM, hb4⟩; have hSq := hq.isS; have hb4 := bthen hb3 hb4; have HM := Lib.hid hM; have HQ4 := Lib.hid hq; clear hM hq)
          | (go_at_call 49; refine (dSign ng q e M _ HQ4.out).mono ?_; rintro _ w5 ⟨rfl, hb5⟩; have hb5 := bthen hb4 hb5)))
    | fail
  all_goals
    go_wp2
    go_ret
    have k := HM.out
    rw [sI_not] at k
    exact ⟨congrArg (fun z => Ending.returned (.int .i64 z)) (sgD_cmp (i := sI n1 P) (j := sI n2 Q) (by omega)), HW.out.trans (hb5.mono hXs)⟩
end Go.Proofs.YtgclooabjilniaaGreatDoor

/-
The thin package's Set, Neg, Abs. No condition.
-/
namespace Go.Proofs.YtgclooabjilniaaGreatDoor
open Go.RowKit

theorem bthenX {B : Nat} {a b c : World} (h : Below B a b) (k : Below B b c) : Below B a c := h.trans k
theorem stA_bd (f p m : Nat) (neg : Bool) (M : Nat) : -1 ≤ stA f p m neg M ∧ stA f p m neg M ≤ 1 := by
  unfold stA rA; repeat' split
  all_goals omega
theorem rQ_range {p m M : Nat} {neg : Bool} {e : Int} (h : bl M ≤ 1000000 ∧ -100000000 ≤ e ∧ e ≤ 100000000) : -900000000 ≤ e + (rk p M : Nat) ∧ e + (rk p M : Nat) + bl (rQ p m neg 0 M) ≤ 900000000 := by
  have h1 := rk_le p M
  have h2 := bl_rQ p m neg 0 M
  omega
end Go.Proofs.YtgclooabjilniaaGreatDoor

/-
The thin package's SetPrec, SetMantExp, MantExp, IsInt. No condition.
-/
namespace Go.Proofs.YtgclooabjilniaaGreatDoor
open Go.RowKit

end Go.Proofs.YtgclooabjilniaaGreatDoor

/-
The value of a Real in the reference. No condition.
-/
namespace Go.Proofs.YtgclooabjilniaaGreatDoor
open Go.RowKit

def dyN (f : Nat) (n : Bool) : Bool := if f = 1 then n else false
def dyM (f M : Nat) : Nat := if f = 1 then M else 0
def dyE (f : Nat) (e : Int) : Int := if f = 1 then e else 0
theorem ofReal_any (P E p m f : Nat) (e : Int) (neg : Bool) (v : Value) (ws : List Nat) (w : World) (hv : RW w v ws) (ho : RealOk P E p m f ws e) :
    Calls Tryz.prog 23 #[.agg #[.int .u64 p, .int .i64 m, .int .i64 f, .bool neg, v, .int .i64 e]] w fun e' w' => ∃ r, e' = .returned r ∧ DyV w' r (dyN f neg) (dyM f (wv ws)) (dyE f e) ∧ Below w.heap.size w w' := by
  by_cases hf : f = 1
  · subst hf
    obtain ⟨-, -, -, h | h | h⟩ := ho
    · exact absurd h (by decide)
    · exact absurd h (by decide)
    · exact ofReal_one p m e neg v ws w hv h.2.2.2.1
  · rw [dyN, dyM, dyE, if_neg hf, if_neg hf, if_neg hf]
    exact ofReal_other p m f e neg v w hv.isS hf
theorem dy_nl {P E p m f : Nat} {e : Int} {ws : List Nat} (ho : RealOk P E p m f ws e) (hP : P ≤ 64000) : bl (dyM f (wv ws)) ≤ P ∧ -(E : Int) ≤ dyE f e ∧ dyE f e ≤ E := by
  obtain ⟨h1, h2, -, h⟩ := ho
  by_cases hf : f = 1
  · subst hf
    rw [dyM, dyE, if_pos rfl, if_pos rfl]
    rcases h with h | h | h
    · exact absurd h (by decide)
    · exact absurd h (by decide)
    · exact ⟨Nat.le_trans h.2.2.1 h2, h.2.2.2.2.1, h.2.2.2.2.2⟩
  · rw [dyM, dyE, if_neg hf, if_neg hf, bl_zero]; omega
theorem bl_two (x n : Nat) : bl (x * 2 ^ n) ≤ bl x + n := bl_le (by
  rw [Nat.pow_add]; exact Nat.mul_lt_mul_of_pos_right (lt_bl x) (Nat.two_pow_pos n))
theorem nl_of_bl {n k : Nat} (h : bl n ≤ k) : nl n ≤ k := nl_bl (by omega)
theorem RealOk.pos {P E p m f : Nat} {ws : List Nat} {e : Int} (h : RealOk P E p m f ws e) (hf : f = 1) : 0 < wv ws := by
  subst hf
  obtain ⟨-, -, -, h | h | h⟩ := h
  · exact absurd h (by decide)
  · exact absurd h (by decide)
  · exact h.2.1
end Go.Proofs.YtgclooabjilniaaGreatDoor

/-
What is told of a Real against its reference. No condition.
-/
namespace Go.Proofs.YtgclooabjilniaaGreatDoor
open Go.RowKit

theorem rQ_zero (p m : Nat) (neg : Bool) : rk p 0 = 0 ∧ rQ p m neg 0 0 = 0 ∧ rA p m neg 0 0 = 0 := rQ_fits neg (by rw [bl_zero]; exact Nat.zero_le _)
theorem told_dy {w : World} {z : Value} {p m f M : Nat} {n : Bool} {e : Int} (hf : f = 0 ∨ f = 1) (hz : RealV w z p m f n (rQ p m n 0 M) (e + (rk p M : Nat))) (hM : f = 1 → 0 < M) (hp : 0 < p) :
    Told w z p m (dyN f n) (rQ p m (dyN f n) 0 (dyM f M)) (dyE f e + (rk p (dyM f M) : Nat)) := by
  rcases hf with rfl | rfl
  · obtain ⟨h1, h2, -⟩ := rQ_zero p m (dyN 0 n)
    rw [show dyM 0 M = 0 from rfl, h2]
    exact hz.told0
  · rw [show dyN 1 n = n from rfl, show dyM 1 M = M from rfl, show dyE 1 e = e from rfl]
    exact hz.told (rQ_pos n 0 hp (hM rfl)) (deq.refl _ _)
theorem stA_dy {p m f M : Nat} {n : Bool} (hf : f = 0 ∨ f = 1) : stA f p m n M = rA p m (dyN f n) 0 (dyM f M) := by
  rcases hf with rfl | rfl
  · exact (rQ_zero p m (dyN 0 n)).2.2.symm
  · rfl
theorem RealV.form {w : World} {z : Value} {p m f M : Nat} {neg : Bool} {X : Int} (h : RealV w z p m f neg M X) : ∃ (v : Value) (E : Int), z = .agg #[.int .u64 p, .int .i64 m, .int .i64 f, .bool neg, v, .int .i64 E] ∧ IsS v := by
  obtain ⟨v, E, zs, B, h1, h2, -⟩ := h
  exact ⟨v, E, h1, h2.isS⟩
theorem RealOk.form' {P E p m f : Nat} {ws : List Nat} {e : Int} (h : RealOk P E p m f ws e) : f ≤ 2 := by
  obtain ⟨-, -, -, h | h | h⟩ := h <;> omega
theorem pOf_self (k p : Nat) : pOf k (max p p) = pOf k p := by rw [Nat.max_self]
end Go.Proofs.YtgclooabjilniaaGreatDoor

/-
Rounding is monotone. Plain law. No condition.
-/
namespace Go.Proofs.YtgclooabjilniaaGreatDoor
open Go.RowKit

theorem lef_mono {R R' D : Nat} (h : R ≤ R') : lef R D 0 ≤ lef R' D 0 := by
  unfold lef; repeat' split
  all_goals omega
theorem awy_mono {neg odd : Bool} {l l' m : Nat} (h : l ≤ l') (hl : l' ≤ 3) (hu : awy neg odd l m = true) : awy neg odd l' m = true := by
  have c : l = 0 ∨ l = 1 ∨ l = 2 ∨ l = 3 := by omega
  have c' : l' = 0 ∨ l' = 1 ∨ l' = 2 ∨ l' = 3 := by omega
  unfold awy at hu ⊢
  rcases c with rfl | rfl | rfl | rfl <;> rcases c' with rfl | rfl | rfl | rfl <;> first | omega | (cases odd <;> cases neg <;> revert hu <;> (repeat' split) <;> simp)
theorem rQ_mono {p m M N : Nat} (neg : Bool) (hp : 0 < p) (h : M ≤ N) : rQ p m neg 0 M * 2 ^ rk p M ≤ rQ p m neg 0 N * 2 ^ rk p N := by
  have hbl := bl_mono h
  rcases Nat.lt_or_ge (rk p M) (rk p N) with hk | hk
  · have hN : p < bl N := by unfold rk at hk; omega
    obtain ⟨b1, -, -⟩ := rQ_bound (m := m) neg 0 hp hN
    have h1 : rQ p m neg 0 M * 2 ^ rk p M ≤ 2 ^ bl M := by
      rcases Nat.lt_or_ge p (bl M) with hM | hM
      · have := (rQ_bound (m := m) neg 0 hp hM).2.2
        have e : 2 ^ bl M = 2 ^ p * 2 ^ rk p M := by rw [← Nat.pow_add]; congr 1; unfold rk; omega
        rw [e]; exact Nat.mul_le_mul_right _ this
      · obtain ⟨k0, q0, -⟩ := rQ_fits (m := m) neg hM
        rw [k0, q0, Nat.pow_zero, Nat.mul_one]; exact Nat.le_of_lt (lt_bl M)
    have h2 : 2 ^ bl M ≤ 2 ^ (p - 1) * 2 ^ rk p N := by rw [← Nat.pow_add]; exact Nat.pow_le_pow_right (by decide) (by unfold rk at *; omega)
    have h3 : N / 2 ^ rk p N ≤ rQ p m neg 0 N := Nat.le_add_right _ _
    exact Nat.le_trans h1 (Nat.le_trans h2 (Nat.mul_le_mul_right _ (Nat.le_trans b1 h3)))
  · have hk' : rk p M = rk p N := by unfold rk at *; omega
    unfold rQ rU rL
    rw [hk']
    obtain ⟨D, hD⟩ : ∃ D, D = 2 ^ rk p N := ⟨_, rfl⟩
    rw [← hD]
    have hD0 : 0 < D := by rw [hD]; exact Nat.two_pow_pos _
    refine Nat.mul_le_mul_right _ ?_
    have hd : M / D ≤ N / D := Nat.div_le_div_right h
    rcases Nat.lt_or_eq_of_le hd with hlt | heq
    · split <;> split <;> omega
    · have hr : M % D ≤ N % D := by
        have a1 := Nat.div_add_mod M D
        have a2 := Nat.div_add_mod N D
        rw [heq] at a1
        omega
      rw [heq]
      cases hu : awy neg (decide (N / D % 2 = 1)) (lef (M % D) D 0) m with
      | false => simp
      | true => rw [awy_mono (lef_mono hr) (lef_le _ _ _) hu]; exact Nat.le_refl _
def vN (V : Int) : Bool := decide (V < 0)
/-- The rounded value, at the exact value's exponent. -/
def rV (p m : Nat) (V : Int) : Int := sI (vN V) (rQ p m (vN V) 0 V.natAbs * 2 ^ rk p V.natAbs)
theorem rV_mono {p m : Nat} {V W : Int} (hp : 0 < p) (h : V ≤ W) : rV p m V ≤ rV p m W := by
  unfold rV vN
  by_cases h1 : V < 0 <;> by_cases h2 : W < 0
  · rw [decide_eq_true h1, decide_eq_true h2]
    have := rQ_mono (p := p) (m := m) true hp (show W.natAbs ≤ V.natAbs by omega)
    simp only [sI, if_true]; omega
  · rw [decide_eq_true h1, decide_eq_false h2]
    simp only [sI, if_true, Bool.false_eq_true, if_false]; omega
  · omega
  · rw [decide_eq_false h1, decide_eq_false h2]
    have := rQ_mono (p := p) (m := m) false hp (show V.natAbs ≤ W.natAbs by omega)
    simp only [sI, Bool.false_eq_true, if_false]; omega
end Go.Proofs.YtgclooabjilniaaGreatDoor

/-
The reference's sum of two dyadic values, by its value; what is plain in it. No condition.
-/
namespace Go.Proofs.YtgclooabjilniaaGreatDoor
open Go.RowKit

/-- The sum of two dyadic values, at the lower exponent. -/
def smV (n1 : Bool) (M : Nat) (E : Int) (n2 : Bool) (N : Nat) (F : Int) : Int := sI n1 (lo M E (min E F)) + sI n2 (lo N F (min E F))
theorem natAbs_sI (n : Bool) (S : Nat) : (sI n S).natAbs = S := by cases n <;> simp [sI]
theorem vN_sI {n : Bool} {S : Nat} (h : 0 < S) : vN (sI n S) = n := by
  cases n
  · simp [sI, vN]
  · simp [sI, vN]; omega
theorem sI_ne {n : Bool} {S : Nat} (h : 0 < S) : sI n S ≠ 0 := by
  cases n
  · simp [sI]; omega
  · simp [sI]; omega
theorem lo_zero (E e : Int) : lo 0 E e = 0 := Nat.zero_mul _
theorem sI_zero (n : Bool) : sI n 0 = 0 := by cases n <;> rfl
theorem rA_bd (p m : Nat) (neg : Bool) (s M : Nat) : -1 ≤ rA p m neg s M ∧ rA p m neg s M ≤ 1 := by
  unfold rA; repeat' split
  all_goals omega
theorem smV_bl (n1 : Bool) (M : Nat) (E : Int) (n2 : Bool) (N : Nat) (F : Int) : bl (smV n1 M E n2 N F).natAbs ≤ max (bl M + (E - min E F).toNat) (bl N + (F - min E F).toNat) + 1 := by
  refine Nat.le_trans (bl_mono ?_) (bl_suM M E N F)
  unfold smV suM; cases n1 <;> cases n2 <;> simp [sI] <;> omega
theorem dy_bd {P E p m f : Nat} {ws : List Nat} {e : Int} (h : RealOk P E p m f ws e) : bl (dyM f (wv ws)) ≤ P ∧ -(E : Int) ≤ dyE f e ∧ dyE f e ≤ E := by
  by_cases hf : f = 1
  · subst hf
    obtain ⟨-, h2, -, h | h | ⟨-, h3, h4, h5, h6, h7⟩⟩ := h
    · omega
    · omega
    · exact ⟨Nat.le_trans h4 h2, h6, h7⟩
  · unfold dyM dyE; rw [if_neg hf, if_neg hf, bl_zero]; omega
/-- The reference's sum of two dyadic values. -/
theorem dSum_sm (n1 n2 : Bool) (a b : Value) (e1 e2 : Int) (x y : Nat) (w : World) (ha : NatV w a x) (hb : NatV w b y) (hx : bl x ≤ 1000000) (hy : bl y ≤ 1000000) (g1 : -1000000 ≤ e1 ∧ e1 ≤ 1000000) (g2 : -1000000 ≤ e2 ∧ e2 ≤ 1000000) :
    Calls Tryz.prog 26 #[.agg #[.bool n1, a, .int .i64 e1], .agg #[.bool n2, b, .int .i64 e2]] w fun e' w' => ∃ ng c M, e' = .returned (.agg #[.bool ng, c, .int .i64 (min e1 e2)]) ∧ NatV w' c M ∧ sI ng M = smV n1 x e1 n2 y e2 ∧ Below w.heap.size w w' := by
  have k1 := bl_two x (e1 - min e1 e2).toNat
  have k2 := bl_two y (e2 - min e1 e2).toNat
  refine (dSum n1 n2 a b e1 e2 (min e1 e2) x y (e1 - min e1 e2).toNat (e2 - min e1 e2).toNat w ha hb rfl (by omega) (by omega) (by omega) (by omega) (by omega) (by omega) (by omega)
    (nl_of_bl (by omega)) (nl_of_bl (by omega)) (by omega) (by omega) (nl_of_bl (by omega)) (nl_of_bl (by omega))).mono ?_
  rintro _ w' ⟨r, rfl, ng, M, ⟨c, rfl, hc⟩, hs, hb⟩
  exact ⟨ng, c, M, rfl, hc, hs, hb⟩
theorem sum_bl {ng : Bool} {M : Nat} {V : Int} (h : sI ng M = V) : bl M = bl V.natAbs := by rw [← h, natAbs_sI]
end Go.Proofs.YtgclooabjilniaaGreatDoor

/-
What the laws on sums and products share, off the walks of Add. No condition.
-/
namespace Go.Proofs.YtgclooabjilniaaGreatDoor
open Go.RowKit

theorem deq_zero {N M : Nat} {X Y : Int} (h : deq N X M Y) (h0 : N = 0) : M = 0 := by
  obtain ⟨i, j, h1, -⟩ := h
  rw [h0, Nat.zero_mul] at h1
  rcases Nat.mul_eq_zero.1 h1.symm with h2 | h2
  · exact h2
  · exact absurd h2 (Nat.ne_of_gt (Nat.two_pow_pos _))
/-- A float as impl.float makes it: its words. -/
theorem FloatAt.open {w : World} {B g p m M : Nat} {n : Bool} {E : Int} (h : FloatAt w B g p m 1 n M E) (hM : 0 < M) (hp : bl M ≤ p) (hb : bl M ≤ 10000) :
    ∃ r x, FltR w g p m 0 1 n r x ∧ Own w B 128 r (cellsW (topN M)) ∧ Good (topN M) p ∧ (topN M).length ≤ 200 ∧ x = (bl M : Nat) + E ∧ deq (wv (topN M)) (x - 64 * ((topN M).length : Int)) M E := by
  obtain ⟨-, r, x, h1, h2⟩ := h
  obtain ⟨hx, h3⟩ := h2 rfl
  have hn := nw_bl hM
  have hl : (topN M).length = nw M := topN_length _
  refine ⟨r, x, h1, h3, topN_good hM hp (by omega), by rw [hl]; omega, hx, ?_⟩
  rw [hl, topN_wv hM, hx]
  exact ⟨0, 64 * nw M - bl M, by simp, by omega⟩
/-- What Add leaves in its receiver: the rounded value V times 2 to X; zn is the sign of zero. -/
def AddR (w : World) (B b q m : Nat) (zn : Bool) (V X : Int) : Prop :=
  FVal w B b q m (rA q m (vN V) 0 V.natAbs) (fO V.natAbs) (if V = 0 then zn else vN V) (rQ q m (vN V) 0 V.natAbs) (X + rk q V.natAbs)
theorem AddR.pos {w : World} {B b q m S : Nat} {zn n : Bool} {X : Int} (h : 0 < S) (hF : FVal w B b q m (rA q m n 0 S) 1 n (rQ q m n 0 S) (X + rk q S)) : AddR w B b q m zn (sI n S) X := by
  unfold AddR
  rw [natAbs_sI, vN_sI h, fO, if_neg (Nat.ne_of_gt h), if_neg (sI_ne h)]
  exact hF
theorem AddR.zero {w : World} {B b q m : Nat} {zn : Bool} {X e : Int} {v : Value} (h : FltR w b q m 0 0 zn v e) : AddR w B b q m zn 0 X := by
  unfold AddR
  obtain ⟨h1, h2, h3⟩ := rQ_zero q m (vN 0)
  rw [Int.natAbs_zero, h3, if_pos rfl, show fO 0 = 0 from rfl]
  exact ⟨v, e, h, fun hc => by cases hc⟩
theorem AddR.cast {w : World} {B b q m : Nat} {zn : Bool} {V V' X X' : Int} (h : AddR w B b q m zn V X) (hV : V = V') (hX : X = X') : AddR w B b q m zn V' X' := by rw [← hV, ← hX]; exact h
theorem FltR.at {w : World} {b p m f : Nat} {a : Int} {neg : Bool} {v : Value} {e : Int} (h : FltR w b p m a f neg v e) (i : Nat) (u : Value) {B1 g p1 m1 f1 M : Nat} {n1 : Bool} {E : Int} (hne : b ≠ g) (hx : FloatAt w B1 g p1 m1 f1 n1 M E) : FloatAt (w.setCell ⟨b, i, none⟩ u) B1 g p1 m1 f1 n1 M E := by
  obtain ⟨h1, r, x, h2, h3⟩ := hx
  refine ⟨h1, r, x, (heap_setCell_other _ _ _ _ (by simpa using hne.symm)).trans h2, fun hf => ?_⟩
  obtain ⟨h4, h5⟩ := h3 hf
  exact ⟨h4, h.own h5 i u⟩
theorem FloatAt.row {w : World} {B g p m f M : Nat} {n : Bool} {E : Int} (h : FloatAt w B g p m f n M E) : ∃ r x, FltR w g p m 0 f n r x := by
  obtain ⟨-, r, x, h, -⟩ := h; exact ⟨r, x, h⟩
theorem FloatAt.drewN {w : World} {B g p m f M : Nat} {n : Bool} {E : Int} (h : FloatAt w B g p m f n M E) (k : Nat) : FloatAt (w.drewN k) B g p m f n M E := h.below (undrewN' (Below.refl _ _))
/-- What is told of a rounded sum V times 2 to X; zn is the sign of zero. -/
def AddZ (w : World) (z : Value) (A : Int) (q m : Nat) (zn : Bool) (V X : Int) : Prop :=
  A = rA q m (vN V) 0 V.natAbs ∧ RealV w z q m (fO V.natAbs) (if V = 0 then zn else vN V) (rQ q m (vN V) 0 V.natAbs) (X + rk q V.natAbs)
theorem AddZ.below {w w' : World} {z : Value} {A : Int} {q m : Nat} {zn : Bool} {V X : Int} (h : AddZ w z A q m zn V X) (hb : Below w.heap.size w w') : AddZ w' z A q m zn V X := ⟨h.1, h.2.below hb⟩
theorem AddZ.told {w : World} {z : Value} {A : Int} {q m M : Nat} {zn ng : Bool} {V X : Int} (h : AddZ w z A q m zn V X) (hV : sI ng M = V) (hq : 0 < q) : Told w z q m ng (rQ q m ng 0 M) (X + (rk q M : Nat)) ∧ A = rA q m ng 0 M := by
  obtain ⟨h1, h2⟩ := h
  subst hV
  rcases Nat.eq_zero_or_pos M with h0 | h0
  · subst h0
    obtain ⟨k1, k2, k3⟩ := rQ_zero q m ng
    rw [sI_zero] at h1 h2
    rw [k2, k3]
    refine ⟨?_, by rw [h1]; exact (rQ_zero q m _).2.2⟩
    exact h2.told0
  · rw [natAbs_sI, vN_sI h0] at h1 h2
    rw [fO, if_neg (Nat.ne_of_gt h0), if_neg (sI_ne h0)] at h2
    exact ⟨h2.told (rQ_pos ng 0 hq h0) (deq.refl _ _), h1⟩
theorem ksT2 {W X : World} {i j : Nat} {a b c d e f a' b' c' d' e' f' : Value} {T T' : TypeId} (hr : W.heap[i]? = some (.cells #[a, b, c, d, e, f] T (0, 0))) (hq : W.heap[j]? = some (.cells #[a', b', c', d', e', f'] T' (0, 0))) (h : Below W.heap.size W X) :
    (X.cell? ⟨i, 0, none⟩ = some a ∧ X.cell? ⟨i, 1, none⟩ = some b ∧ X.cell? ⟨i, 2, none⟩ = some c ∧ X.cell? ⟨i, 3, none⟩ = some d ∧ X.cell? ⟨i, 4, none⟩ = some e ∧ X.cell? ⟨i, 5, none⟩ = some f) ∧
    (X.cell? ⟨j, 0, none⟩ = some a' ∧ X.cell? ⟨j, 1, none⟩ = some b' ∧ X.cell? ⟨j, 2, none⟩ = some c' ∧ X.cell? ⟨j, 3, none⟩ = some d' ∧ X.cell? ⟨j, 4, none⟩ = some e' ∧ X.cell? ⟨j, 5, none⟩ = some f') :=
  ⟨(ks12 hr h).2, (ks12 hq h).2⟩
theorem AddZ.form {w : World} {z : Value} {A : Int} {q m : Nat} {zn : Bool} {V X : Int} (h : AddZ w z A q m zn V X) : ∃ (f : Nat) (sg : Bool) (v : Value) (E : Int), z = .agg #[.int .u64 q, .int .i64 m, .int .i64 f, .bool sg, v, .int .i64 E] ∧ IsS v := by
  obtain ⟨v, E, h1, h2⟩ := h.2.form
  exact ⟨_, _, v, E, h1, h2⟩
end Go.Proofs.YtgclooabjilniaaGreatDoor

/-
Floats: umul of a new receiver. No condition.
-/
namespace Go.Proofs.YtgclooabjilniaaGreatDoor
open Go.RowKit

theorem bl_prod {X Y a b : Nat} (ha : 0 < a) (hb : 0 < b) (hX : bl X = a) (hY : bl Y = b) : a + b - 1 ≤ bl (X * Y) ∧ bl (X * Y) ≤ a + b := by
  have hX0 : 0 < X := by rcases Nat.eq_zero_or_pos X with h | h; (rw [h, bl_zero] at hX; omega); exact h
  have hY0 : 0 < Y := by rcases Nat.eq_zero_or_pos Y with h | h; (rw [h, bl_zero] at hY; omega); exact h
  have hX1 := bl_ge hX0
  have hY1 := bl_ge hY0
  have hX2 := lt_bl X
  have hY2 := lt_bl Y
  rw [hX] at hX1 hX2
  rw [hY] at hY1 hY2
  have h1 := Nat.mul_le_mul hX1 hY1
  have h2 := Nat.mul_lt_mul'' hX2 hY2
  rw [← Nat.pow_add] at h1 h2
  refine ⟨?_, bl_le h2⟩
  have h3 := lt_bl (X * Y)
  have h4 := (Nat.pow_lt_pow_iff_right (a := 2) (by decide)).1 (Nat.lt_of_le_of_lt h1 h3)
  omega
theorem deq_mul {X Y M N : Nat} {ex ey E F : Int} (h1 : deq X ex M E) (h2 : deq Y ey N F) : deq (X * Y) (ex + ey) (M * N) (E + F) := by
  obtain ⟨i, j, a1, a2⟩ := h1
  obtain ⟨k, l, b1, b2⟩ := h2
  refine ⟨i + k, j + l, ?_, by omega⟩
  rw [Nat.pow_add, Nat.pow_add, show X * Y * (2 ^ i * 2 ^ k) = (X * 2 ^ i) * (Y * 2 ^ k) by ac_rfl, a1, b1]
  ac_rfl
theorem eqlF (w : World) {b c : Nat} {cb cc : Array Value} {tb tc : TypeId} (hne : b ≠ c) (hb : w.heap[b]? = some (.cells cb tb (0, 0))) (hc : w.heap[c]? = some (.cells cc tc (0, 0))) :
    (binOp .eql 63 (.pointer (some ⟨b, 0, none⟩)) (.pointer (some ⟨c, 0, none⟩))).run Tryz.prog w = .ok (.bool false) w := by
  obtain ⟨j, hj, hz⟩ := info_size sizeF
  exact run_eql_ptr_other w Tryz.underlying63 hj (by omega) (by simp) hb hc
set_option maxRecDepth 100000 in
set_option maxHeartbeats 6400000 in
theorem umul_new (b B cx cy p m px mx py my f0 : Nat) (a0 e0 ax ay ex ey : Int) (nz nx ny : Bool) (vx vy : Value) (xs ys : List Nat) (w : World) (h : FltR w b p m a0 f0 nz (.slice none 0 0) e0) (hB : B ≤ b) (hx : FltR w cx px mx ax 1 nx vx ex) (hy : FltR w cy py my ay 1 ny vy ey) {Bx By : Nat} (hox : Own w Bx 128 vx (cellsW xs)) (hoy : Own w By 128 vy (cellsW ys))
    (hgx : Good xs px) (hgy : Good ys py) (hbx : b ≠ cx) (hby : b ≠ cy) (hxy : cx ≠ cy) (hp0 : 0 < p) (hp : p ≤ 64000000) (hm : m ≤ 5) (hlx : xs.length ≤ 39) (hly : ys.length ≤ 39) (hex1 : -1100000000 ≤ ex) (hex2 : ex ≤ 1100000000) (hey1 : -1100000000 ≤ ey) (hey2 : ey ≤ 1100000000) (hd1 : ex + ey ≤ 1800000000) (hd2 : -1800000000 ≤ ex + ey) (hK : KarW w) :
    Calls Tryz.prog 64 #[.pointer (some ⟨b, 0, none⟩), .pointer (some ⟨cx, 0, none⟩), .pointer (some ⟨cy, 0, none⟩)] w fun e' w' => e' = .returned (.tuple #[]) ∧ FVal w' B b p m (rA p m nz 0 (wv xs * wv ys)) 1 nz (rQ p m nz 0 (wv xs * wv ys)) ((ex - 64 * (xs.length : Int)) + (ey - 64 * (ys.length : Int)) + rk p (wv xs * wv ys)) ∧ Below B w w' := by
  obtain ⟨c0, c1, c2, c3, c4, c5, c6⟩ := h.cells
  obtain ⟨f0', f1', f2', f3', f4', f5', f6'⟩ := h.free
  obtain ⟨x0, x1, x2, x3, x4, x5, x6⟩ := hx.cells
  obtain ⟨y0, y1, y2, y3, y4, y5, y6⟩ := hy.cells
  have hSx := hox.isS
  have hSy := hoy.isS
  have hbs := h.lt
  have HBW : Hid (B ≤ w.heap.size) := Lib.hid (by omega)
  have ROX := Lib.hid (show RO w vx (wds (wv xs)) by rw [← hgx.wds]; exact hox.ro hgx.2.2.1)
  have ROY := Lib.hid (show RO w vy (wds (wv ys)) by rw [← hgy.wds]; exact hoy.ro hgy.2.2.1)
  have hblx := hgx.bl
  have hbly := hgy.bl
  have hxl0 := hgx.1
  have hyl0 := hgy.1
  have hnwx : nw (wv xs) = xs.length := by rw [nw_bl hgx.posv, hblx]; omega
  have hnwy : nw (wv ys) = ys.length := by rw [nw_bl hgy.posv, hbly]; omega
  have hbp := bl_prod (by omega) (by omega) hblx hbly
  obtain ⟨S, hSS⟩ : ∃ S, S = wv xs * wv ys := ⟨_, rfl⟩
  have hS0 : 0 < S := by rw [hSS]; exact Nat.mul_pos hgx.posv hgy.posv
  rw [← hSS] at hbp ⊢
  have hnS : nw S = xs.length + ys.length := by rw [nw_bl hS0]; omega
  obtain ⟨E, hE⟩ : ∃ E : Int, E = (ex - 64 * (xs.length : Int)) + (ey - 64 * (ys.length : Int)) := ⟨_, rfl⟩
  rw [← hE]
  have HFIN : Hid (∀ (w7 : World) (r2 : Value) (x : Int), FltR w7 b p m a0 f0 nz r2 e0 → Own w7 B 128 r2 (cellsW (topN S)) → -1900000000 ≤ x → x ≤ 1900000000 → x - 64 * ((topN S).length : Int) = E - ((64 * nw S - bl S : Nat) : Int) →
      Calls Tryz.prog 91 #[.pointer (some ⟨b, 0, none⟩), .int .i64 x, .int .u64 0] w7 fun e' w' => e' = .returned (.tuple #[]) ∧ FVal w' B b p m (rA p m nz 0 S) 1 nz (rQ p m nz 0 S) (E + rk p S) ∧ Below B w7 w') := Lib.hid (fun w7 r2 x h7 o7 hx1 hx2 hxe => by
    have hg : Good (topN S) (64 * nw S) := topN_good hS0 (by have := nw_bl hS0; omega) (by omega)
    have hr := setExp_any b B p m f0 0 a0 e0 x nz r2 (topN S) w7 h7 hB o7 hg.2.2.1 hg.1 hg.2.2.2.1 hg.2.1 hp0 hp hm (by decide) (.inl rfl) (by omega) (by omega)
    rw [show ((0 : Nat) : Int) = 0 from rfl] at hr
    refine hr.mono ?_
    rintro _ w' ⟨rfl, hR⟩
    have F := hR.val (rQ_pos nz 0 hp0 hg.posv)
    obtain ⟨_, _, _, -, -, -, -, hb8⟩ := hR
    refine ⟨rfl, ?_, hb8⟩
    refine fval_trans F hg.posv ?_
    rw [hxe, topN_wv hS0]
    exact ⟨0, 64 * nw S - bl S, by simp, by omega⟩)
  have HMUL : Hid (∀ W : World, RO W vx (wds (wv xs)) → RO W vy (wds (wv ys)) → KarW W → Calls Tryz.prog 90 #[.slice none 0 0, .pointer none, vx, vy] W fun e w' => ∃ r, e = .returned r ∧ Own w' W.heap.size 128 r (cellsW (wds S)) ∧ Below W.heap.size W w') := Lib.hid (fun W k1 k2 k3 => by
    rw [hSS]; exact nmul_any vx vy (wv xs) (wv ys) W k1 k2 (.inl (by omega)) (by omega) (by omega) k3)
  obtain ⟨e, he⟩ : ∃ e : Int, e = ex + ey := ⟨_, rfl⟩
  have he' : ex + ey = e := he.symm
  have heb : -1800000000 ≤ e ∧ e ≤ 1800000000 := by omega
  have hwe : IntKind.i64.wrap (ex + ey) = e := by rw [he']; exact wrap_i64_id (by omega) (by omega)
  have hpe : ∀ k, (binOp .eql 63 (.pointer (some ⟨cx, 0, none⟩)) (.pointer (some ⟨cy, 0, none⟩))).run Tryz.prog (w.drewN k) = .ok (.bool false) (w.drewN k) := fun k => eqlF (w.drewN k) hxy (hx.drewN k) (hy.drewN k)
  have hn1 : ¬ b = cx := hbx
  have hn1' : ¬ cx = b := fun h => hn1 h.symm
  have hn2 : ¬ b = cy := hby
  have hn2' : ¬ cy = b := fun h => hn2 h.symm
  have hn3 : ¬ cx = cy := hxy
  have hn3' : ¬ cy = cx := fun h => hn3 h.symm
  have hnp := nw_pos hS0
  have hnb := nw_bl hS0
  obtain ⟨L, hL⟩ : ∃ L, L = nw S := ⟨_, rfl⟩
  obtain ⟨sh, hsh⟩ : ∃ sh, sh = 64 * nw S - bl S := ⟨_, rfl⟩
  have hLL : L ≤ 78 := by omega
  have hshb : sh ≤ 64 * L := by omega
  obtain ⟨x, hx'⟩ : ∃ x : Int, x = e - (sh : Int) := ⟨_, rfl⟩
  have hxe : e - (sh : Int) = x := hx'.symm
  have hxb : -1900000000 ≤ x ∧ x ≤ 1900000000 := by omega
  have HXW : Hid (IntKind.i64.wrap (e - (sh : Int)) = x) := Lib.hid (by rw [hxe]; exact wrap_i64_id (by omega) (by omega))
  have HXE : Hid (x - 64 * ((topN S).length : Int) = E - ((64 * nw S - bl S : Nat) : Int)) := Lib.hid (by rw [topN_length, ← hsh, ← hL]; omega)
  have HSH := Lib.hid hsh
  have HL := Lib.hid hL
  have HS0 := Lib.hid hS0
  have HH := Lib.hid h
  have HK := Lib.hid hK
  clear h hx hy hox hoy hgx hgy hlx hly hblx hbly hxl0 hyl0 hnwx hnwy hbp hSS hnS hE he hL hsh hx' hK hS0 hnb
  go_enter Tryz.func64, Tryz.ntmps64
  go_wp2_with fail
  go_quiet (fail)
  generalize nq = n1
  go_wp2_with fail
  (refine wp_region_hoist 13 (by kernel_rfl) (by kernel_rfl) ⟨fun _ _ _ h => (by first | exact (hQp _ _ _ h).elim | cases h.2.1 | (obtain ⟨_, h3, _⟩ := h.2; cases h3)), fun _ _ h => (by first | exact (hQo _ _ h).elim | cases h.1 | (obtain ⟨_, h3, _⟩ := h; cases h3))⟩ ?_; simp only [List.take_succ_cons, List.take_zero, List.drop_succ_cons, List.drop_zero]; (repeat (go_big_quiet_step (fail))); refine wpQuiet_nil ?_; rintro _ ⟨nq, rfl⟩)
  go_wp2_with fail
  refine (HMUL.out _ (ROX.out.below (undrewN' (Below.refl _ _))) (ROY.out.below (undrewN' (Below.refl _ _))) (HK.out.drewN _)).mono ?_
  rintro _ w1 ⟨r, rfl, ho1, hb1⟩
  have hb1' : Below w.heap.size w w1 := undrewN hb1
  have hS1 := ho1.isS
  have hH1 := HH.out.below hb1'
  obtain ⟨q0, q1, q2, q3, q4, q5, q6⟩ := hH1.cells
  obtain ⟨g0, g1, g2, g3, g4, g5, g6⟩ := hH1.free
  have hO1 : Own w1 B 128 r (cellsW (wds S)) := ho1.mono (show B ≤ _ from HBW.out)
  have hR2 := hH1.s5 r
  have hO2 := hH1.own hO1 5 r
  have HB2 := Lib.hid (bset (i := 5) (u := r) (hb1'.mono HBW.out) hB)
  have hLr : sLen r = L := by rw [hO2.len, cellsW_length, wds_length, HL.out]
  have hLp : 0 < L := by have := HL.out; omega
  have tl : ((L : Int) == 0) = false := by rw [beq_eq_false_iff_ne]; omega
  obtain ⟨k0, k1, k2, k3, k4, k5, k6⟩ := hR2.cells
  have HR2 := Lib.hid hR2
  have HO2 := Lib.hid hO2
  clear hb1 hb1' hH1 hO1 hR2 hO2 ho1 c0 c1 c2 c3 c4 c5 c6 f0' f1' f2' f3' f4' f5' f6' x0 x1 x2 x3 x4 x5 x6 y0 y1 y2 y3 y4 y5 y6
  go_wp2_with fail
  refine (fnorm_val r S B _ HO2.out HS0.out (by rw [← HL.out]; omega)).mono ?_
  rintro _ w7 ⟨rfl, ho7, hb7, hon7⟩
  rw [← HSH.out]
  have hne7 := HO2.out.ne_row HR2.out (by decide) (by have := HO2.out.isS.le; rw [hLr] at this; omega)
  have hR7 : FltR w7 b p m a0 f0 nz r e0 := (hon7 b HR2.out.lt hne7.symm).trans HR2.out
  have H7 := Lib.hid hR7
  have O7 := Lib.hid ho7
  have B7 := Lib.hid (HB2.out.trans hb7)
  clear hR7 ho7 hb7 hon7 hne7 q0 q1 q2 q3 q4 q5 q6 g0 g1 g2 g3 g4 g5 g6 k0 k1 k2 k3 k4 k5 k6
  go_wp2_with fail
  refine (HFIN.out w7 r x H7.out O7.out hxb.1 hxb.2 HXE.out).mono ?_
  rintro _ w8 ⟨rfl, hF8, hb8⟩
  have F8 := Lib.hid hF8
  have B8 := Lib.hid (B7.out.trans hb8)
  clear hF8 hb8
  go_wp2
  go_end0
  exact ⟨rfl, F8.out, B8.out⟩
theorem umul_at (b B B1 B2 g1 g2 p m p1 m1 p2 m2 f0 M N : Nat) (a0 e0 E F : Int) (nz n1 n2 : Bool) (w : World) (h : FltR w b p m a0 f0 nz (.slice none 0 0) e0) (hB : B ≤ b) (h1 : FloatAt w B1 g1 p1 m1 1 n1 M E) (h2 : FloatAt w B2 g2 p2 m2 1 n2 N F)
    (hM : 0 < M) (hN : 0 < N) (hp1 : bl M ≤ p1) (hp2 : bl N ≤ p2) (hbM : bl M ≤ 2400) (hbN : bl N ≤ 2400) (hE : -1050000000 ≤ E ∧ E ≤ 1050000000) (hF : -1050000000 ≤ F ∧ F ≤ 1050000000) (hEF : -1700000000 ≤ E + F ∧ E + F ≤ 1700000000) (hb1 : b ≠ g1) (hb2 : b ≠ g2) (hg : g1 ≠ g2) (hp0 : 0 < p) (hp : p ≤ 64000000) (hm : m ≤ 5) (hK : KarW w) :
    Calls Tryz.prog 64 #[.pointer (some ⟨b, 0, none⟩), .pointer (some ⟨g1, 0, none⟩), .pointer (some ⟨g2, 0, none⟩)] w fun e' w' => e' = .returned (.tuple #[]) ∧
      FVal w' B b p m (rA p m nz 0 (M * N)) 1 nz (rQ p m nz 0 (M * N)) (E + F + rk p (M * N)) ∧ Below B w w' := by
  obtain ⟨r, x, k1, k2, k3, k4, k5, k6⟩ := h1.open hM hp1 (by omega)
  obtain ⟨s, y, l1, l2, l3, l4, l5, l6⟩ := h2.open hN hp2 (by omega)
  have hnM := nw_bl hM
  have hnN := nw_bl hN
  refine (umul_new b B g1 g2 p m p1 m1 p2 m2 f0 a0 e0 0 0 x y nz n1 n2 r s (topN M) (topN N) w h hB k1 l1 k2 l2 k3 l3 hb1 hb2 hg hp0 hp hm (by rw [topN_length]; omega) (by rw [topN_length]; omega) (by omega) (by omega) (by omega) (by omega) (by omega) (by omega) hK).mono ?_
  rintro _ w' ⟨rfl, q, hb⟩
  refine ⟨rfl, ?_, hb⟩
  exact fval_trans q (Nat.mul_pos k3.posv l3.posv) (deq_mul k6 l6)
end Go.Proofs.YtgclooabjilniaaGreatDoor

/-
Floats: Mul of a new receiver. No condition.
-/
namespace Go.Proofs.YtgclooabjilniaaGreatDoor
open Go.RowKit

theorem FltR.neKar {w : World} {b p m f : Nat} {a : Int} {neg : Bool} {v : Value} {e : Int} (h : FltR w b p m a f neg v e) (hK : KarW w) : b ≠ 2 := by
  intro he
  subst he
  have h1 := h.cells.1
  unfold KarW at hK
  rw [hK] at h1
  cases h1
theorem KarW.away {w : World} {b i : Nat} {u : Value} (hK : KarW w) (hb : b ≠ 2) : KarW (w.setCell ⟨b, i, none⟩ u) := by
  unfold KarW
  rw [cell_other (by simpa using hb)]
  exact hK
set_option maxRecDepth 100000 in
set_option maxHeartbeats 6400000 in
theorem mulF_11 (b B B1 B2 g1 g2 p0 m p1 m1 p2 m2 f0 M N : Nat) (a0 e0 E F : Int) (nz n1 n2 : Bool) (w : World) (h : FltR w b p0 m a0 f0 nz (.slice none 0 0) e0) (hB : B ≤ b) (h1 : FloatAt w B1 g1 p1 m1 1 n1 M E) (h2 : FloatAt w B2 g2 p2 m2 1 n2 N F)
    (hM : 0 < M) (hN : 0 < N) (hp1 : bl M ≤ p1) (hp2 : bl N ≤ p2) (hbM : bl M ≤ 2400) (hbN : bl N ≤ 2400) (hE : -1050000000 ≤ E ∧ E ≤ 1050000000) (hF : -1050000000 ≤ F ∧ F ≤ 1050000000) (hEF : -1700000000 ≤ E + F ∧ E + F ≤ 1700000000) (hg : g1 ≠ g2) (hm : m ≤ 5) (hK : KarW w) (hb1 : b ≠ g1) (hb2 : b ≠ g2) (hp0 : p0 ≤ 64000000) (hp11 : 0 < p1) (hp1' : p1 ≤ 64000000) (hp22 : 0 < p2) (hp2' : p2 ≤ 64000000) :
    Calls Tryz.prog 38 #[.pointer (some ⟨b, 0, none⟩), .pointer (some ⟨g1, 0, none⟩), .pointer (some ⟨g2, 0, none⟩)] w fun e' w' => e' = .returned (.pointer (some ⟨b, 0, none⟩)) ∧
      FVal w' B b (pOf p0 (max p1 p2)) m (rA (pOf p0 (max p1 p2)) m (n1 != n2) 0 (M * N)) 1 (n1 != n2) (rQ (pOf p0 (max p1 p2)) m (n1 != n2) 0 (M * N)) (E + F + rk (pOf p0 (max p1 p2)) (M * N)) ∧ Below B w w' := by
  obtain ⟨q, hq⟩ : ∃ q, q = pOf p0 (max p1 p2) := ⟨_, rfl⟩
  have hq0 : 0 < q := by rw [hq]; unfold pOf; split <;> omega
  have hqb : q ≤ 64000000 := by rw [hq]; unfold pOf; split <;> omega
  rw [← hq]
  have hbK := h.neKar hK
  have HU := Lib.hid (fun (W : World) (nz : Bool) (k1 : FltR W b q m a0 f0 nz (.slice none 0 0) e0) (k2 : FloatAt W B1 g1 p1 m1 1 n1 M E) (k3 : FloatAt W B2 g2 p2 m2 1 n2 N F) (k4 : KarW W) => umul_at b B B1 B2 g1 g2 q m p1 m1 p2 m2 f0 M N a0 e0 E F nz n1 n2 W k1 hB k2 k3 hM hN hp1 hp2 hbM hbN hE hF hEF hb1 hb2 hg hq0 hqb hm k4)
  have hne1 : ¬ b = g1 := hb1
  have hne1' : ¬ g1 = b := fun h => hne1 h.symm
  have hne2 : ¬ b = g2 := hb2
  have hne2' : ¬ g2 = b := fun h => hne2 h.symm
  obtain ⟨r1, x1, hg1⟩ := h1.row
  obtain ⟨r2, x2, hg2⟩ := h2.row
  obtain ⟨c0, c1, c2, c3, c4, c5, c6⟩ := h.cells
  obtain ⟨f0', f1', f2', f3', f4', f5', f6'⟩ := h.free
  obtain ⟨y0, y1, y2, y3', y4, y5, y6⟩ := hg1.cells
  obtain ⟨z0, z1, z2, z3', z4, z5, z6⟩ := hg2.cells
  have y3 : w.cell? ⟨g1, 3, none⟩ = some (.int .u8 1) := y3'
  have z3 : w.cell? ⟨g2, 3, none⟩ = some (.int .u8 1) := z3'
  have HH := Lib.hid h
  have HX := Lib.hid h1
  have HY := Lib.hid h2
  have HG1 := Lib.hid hg1
  have HG2 := Lib.hid hg2
  obtain ⟨sg, hsg⟩ : ∃ sg, sg = (n1 != n2) := ⟨_, rfl⟩
  have Hsg := Lib.hid hsg
  rw [← hsg]
  have HK := Lib.hid hK
  clear h h1 h2 hg1 hg2 y3' z3' c1 c2 c5 c6 hsg hM hN hp1 hp2 hbM hbN hE hF hEF hg hm hK hq0 hqb
  by_cases hz : p0 = 0
  · have t0 : ((p0 : Int) == 0) = true := by rw [hz]; rfl
    have em : max (p1 : Int) (p2 : Int) = (q : Int) := by rw [hq]; unfold pOf; rw [if_pos hz]; omega
    clear hq hz
    obtain rfl : sg = (!(n1 == n2)) := Hsg.out
    go_enter Tryz.func38, Tryz.ntmps38
    go_wp2_with fail
    (refine wp_region_hoist 12 (by kernel_rfl) (by kernel_rfl) ⟨fun _ _ _ h => (by first | exact (hQp _ _ _ h).elim | cases h.2.1 | (obtain ⟨_, h3, _⟩ := h.2; cases h3)), fun _ _ h => (by first | exact (hQo _ _ h).elim | cases h.1 | (obtain ⟨_, h3, _⟩ := h; cases h3))⟩ ?_; simp only [List.take_succ_cons, List.take_zero, List.drop_succ_cons, List.drop_zero]; (repeat (go_big_quiet_step (fail))); refine wpQuiet_nil ?_; rintro _ ⟨nq, rfl⟩)
    generalize nq = na
    go_wp2_with fail
    (refine wp_region_hoist 12 (by kernel_rfl) (by kernel_rfl) ⟨fun _ _ _ h => (by first | exact (hQp _ _ _ h).elim | cases h.2.1 | (obtain ⟨_, h3, _⟩ := h.2; cases h3)), fun _ _ h => (by first | exact (hQo _ _ h).elim | cases h.1 | (obtain ⟨_, h3, _⟩ := h; cases h3))⟩ ?_; simp only [List.take_succ_cons, List.take_zero, List.drop_succ_cons, List.drop_zero]; (repeat (go_big_quiet_step (fail))); refine wpQuiet_nil ?_; rintro _ ⟨nq, rfl⟩)
    generalize nq = nb
    go_wp2_with fail
    obtain ⟨W, hW⟩ : ∃ W, W = (((w.drewN na).setCell ⟨b, 0, none⟩ (.int .u32 (q : Int))).drewN nb).setCell ⟨b, 4, none⟩ (.bool (!(n1 == n2))) := ⟨_, rfl⟩
    rw [← hW]
    have hWh : FltR W b q m a0 f0 (!(n1 == n2)) (.slice none 0 0) e0 := by rw [hW]; exact (((HH.out.drewN na).s0 q).drewN nb).s4 (!(n1 == n2))
    have hW1 : FloatAt W B1 g1 p1 m1 1 n1 M E := by rw [hW]; exact (((HH.out.drewN na).s0 q).drewN nb).at 4 (.bool (!(n1 == n2))) hb1 (((HH.out.drewN na).at 0 (.int .u32 (q : Int)) hb1 (HX.out.drewN na)).drewN nb)
    have hW2 : FloatAt W B2 g2 p2 m2 1 n2 N F := by rw [hW]; exact (((HH.out.drewN na).s0 q).drewN nb).at 4 (.bool (!(n1 == n2))) hb2 (((HH.out.drewN na).at 0 (.int .u32 (q : Int)) hb2 (HY.out.drewN na)).drewN nb)
    have hWK : KarW W := by rw [hW]; exact (((HK.out.drewN na).away (i := 0) (u := .int .u32 (q : Int)) hbK).drewN nb).away (i := 4) (u := .bool (!(n1 == n2))) hbK
    have hWB : Hid (Below B w W) := Lib.hid (by rw [hW]; exact bset (i := 4) (u := .bool (!(n1 == n2))) (undrewN' (n := nb) (bset (i := 0) (u := .int .u32 (q : Int)) (undrewN' (n := na) (Below.refl B w)) hB)) hB)
    clear hW
    refine (HU.out W _ hWh hW1 hW2 hWK).mono ?_
    rintro _ w5 ⟨rfl, hv, hb5⟩
    have HV := Lib.hid hv
    have HB5 := Lib.hid (hWB.out.trans hb5)
    clear hv hb5 hWh hW1 hW2 hWK
    go_wp2
    go_ret
    exact ⟨rfl, HV.out, HB5.out⟩
  · have t0 : ((p0 : Int) == 0) = false := by rw [beq_eq_false_iff_ne]; omega
    have hqq : q = p0 := by rw [hq]; unfold pOf; rw [if_neg hz]
    have hz' : ¬ q = 0 := by omega
    clear hq hz
    subst hqq
    obtain rfl : sg = (!(n1 == n2)) := Hsg.out
    go_enter Tryz.func38, Tryz.ntmps38
    go_wp2_with fail
    (refine wp_region_hoist 12 (by kernel_rfl) (by kernel_rfl) ⟨fun _ _ _ h => (by first | exact (hQp _ _ _ h).elim | cases h.2.1 | (obtain ⟨_, h3, _⟩ := h.2; cases h3)), fun _ _ h => (by first | exact (hQo _ _ h).elim | cases h.1 | (obtain ⟨_, h3, _⟩ := h; cases h3))⟩ ?_; simp only [List.take_succ_cons, List.take_zero, List.drop_succ_cons, List.drop_zero]; (repeat (go_big_quiet_step (fail))); refine wpQuiet_nil ?_; rintro _ ⟨nq, rfl⟩)
    generalize nq = nb
    go_wp2_with fail
    obtain ⟨W, hW⟩ : ∃ W, W = (w.drewN nb).setCell ⟨b, 4, none⟩ (.bool (!(n1 == n2))) := ⟨_, rfl⟩
    rw [← hW]
    have hWh : FltR W b q m a0 f0 (!(n1 == n2)) (.slice none 0 0) e0 := by rw [hW]; exact (HH.out.drewN nb).s4 (!(n1 == n2))
    have hW1 : FloatAt W B1 g1 p1 m1 1 n1 M E := by rw [hW]; exact (HH.out.drewN nb).at 4 (.bool (!(n1 == n2))) hb1 (HX.out.drewN nb)
    have hW2 : FloatAt W B2 g2 p2 m2 1 n2 N F := by rw [hW]; exact (HH.out.drewN nb).at 4 (.bool (!(n1 == n2))) hb2 (HY.out.drewN nb)
    have hWK : KarW W := by rw [hW]; exact (HK.out.drewN nb).away (i := 4) (u := .bool (!(n1 == n2))) hbK
    have hWB : Hid (Below B w W) := Lib.hid (by rw [hW]; exact bset (i := 4) (u := .bool (!(n1 == n2))) (undrewN' (n := nb) (Below.refl B w)) hB)
    clear hW
    refine (HU.out W _ hWh hW1 hW2 hWK).mono ?_
    rintro _ w5 ⟨rfl, hv, hb5⟩
    have HV := Lib.hid hv
    have HB5 := Lib.hid (hWB.out.trans hb5)
    clear hv hb5 hWh hW1 hW2 hWK
    go_wp2
    go_ret
    exact ⟨rfl, HV.out, HB5.out⟩
set_option maxRecDepth 100000 in
set_option maxHeartbeats 6400000 in
theorem mulF_00 (b B B1 B2 g1 g2 p0 m p1 m1 p2 m2 f0 M N : Nat) (a0 e0 E F : Int) (nz n1 n2 : Bool) (w : World) (h : FltR w b p0 m a0 f0 nz (.slice none 0 0) e0) (hB : B ≤ b) (h1 : FloatAt w B1 g1 p1 m1 0 n1 M E) (h2 : FloatAt w B2 g2 p2 m2 0 n2 N F)
    (hb1 : b ≠ g1) (hb2 : b ≠ g2) (hp0 : p0 ≤ 64000000) (hp11 : 0 < p1) (hp1' : p1 ≤ 64000000) (hp22 : 0 < p2) (hp2' : p2 ≤ 64000000) :
    Calls Tryz.prog 38 #[.pointer (some ⟨b, 0, none⟩), .pointer (some ⟨g1, 0, none⟩), .pointer (some ⟨g2, 0, none⟩)] w fun e' w' => e' = .returned (.pointer (some ⟨b, 0, none⟩)) ∧
      FltR w' b (pOf p0 (max p1 p2)) m 0 0 (n1 != n2) (.slice none 0 0) e0 ∧ Below B w w' := by
  obtain ⟨q, hq⟩ : ∃ q, q = pOf p0 (max p1 p2) := ⟨_, rfl⟩
  have hq0 : 0 < q := by rw [hq]; unfold pOf; split <;> omega
  have hqb : q ≤ 64000000 := by rw [hq]; unfold pOf; split <;> omega
  rw [← hq]
  have hne1 : ¬ b = g1 := hb1
  have hne1' : ¬ g1 = b := fun h => hne1 h.symm
  have hne2 : ¬ b = g2 := hb2
  have hne2' : ¬ g2 = b := fun h => hne2 h.symm
  obtain ⟨r1, x1, hg1⟩ := h1.row
  obtain ⟨r2, x2, hg2⟩ := h2.row
  obtain ⟨c0, c1, c2, c3, c4, c5, c6⟩ := h.cells
  obtain ⟨f0', f1', f2', f3', f4', f5', f6'⟩ := h.free
  obtain ⟨y0, y1, y2, y3', y4, y5, y6⟩ := hg1.cells
  obtain ⟨z0, z1, z2, z3', z4, z5, z6⟩ := hg2.cells
  have y3 : w.cell? ⟨g1, 3, none⟩ = some (.int .u8 0) := y3'
  have z3 : w.cell? ⟨g2, 3, none⟩ = some (.int .u8 0) := z3'
  have HH := Lib.hid h
  have HX := Lib.hid h1
  have HY := Lib.hid h2
  have HG1 := Lib.hid hg1
  have HG2 := Lib.hid hg2
  obtain ⟨sg, hsg⟩ : ∃ sg, sg = (n1 != n2) := ⟨_, rfl⟩
  have Hsg := Lib.hid hsg
  rw [← hsg]
  clear h h1 h2 hg1 hg2 y3' z3' c1 c2 c5 c6 hsg
  by_cases hz : p0 = 0
  · have t0 : ((p0 : Int) == 0) = true := by rw [hz]; rfl
    have em : max (p1 : Int) (p2 : Int) = (q : Int) := by rw [hq]; unfold pOf; rw [if_pos hz]; omega
    clear hq hz
    obtain rfl : sg = (!(n1 == n2)) := Hsg.out
    go_enter Tryz.func38, Tryz.ntmps38
    go_wp2_with fail
    (refine wp_region_hoist 12 (by kernel_rfl) (by kernel_rfl) ⟨fun _ _ _ h => (by first | exact (hQp _ _ _ h).elim | cases h.2.1 | (obtain ⟨_, h3, _⟩ := h.2; cases h3)), fun _ _ h => (by first | exact (hQo _ _ h).elim | cases h.1 | (obtain ⟨_, h3, _⟩ := h; cases h3))⟩ ?_; simp only [List.take_succ_cons, List.take_zero, List.drop_succ_cons, List.drop_zero]; (repeat (go_big_quiet_step (fail))); refine wpQuiet_nil ?_; rintro _ ⟨nq, rfl⟩)
    generalize nq = na
    go_wp2_with fail
    (refine wp_region_hoist 12 (by kernel_rfl) (by kernel_rfl) ⟨fun _ _ _ h => (by first | exact (hQp _ _ _ h).elim | cases h.2.1 | (obtain ⟨_, h3, _⟩ := h.2; cases h3)), fun _ _ h => (by first | exact (hQo _ _ h).elim | cases h.1 | (obtain ⟨_, h3, _⟩ := h; cases h3))⟩ ?_; simp only [List.take_succ_cons, List.take_zero, List.drop_succ_cons, List.drop_zero]; (repeat (go_big_quiet_step (fail))); refine wpQuiet_nil ?_; rintro _ ⟨nq, rfl⟩)
    generalize nq = nb
    go_upto_region 4 with fail
    obtain ⟨W, hW⟩ : ∃ W, W = (((w.drewN na).setCell ⟨b, 0, none⟩ (.int .u32 (q : Int))).drewN nb).setCell ⟨b, 4, none⟩ (.bool (!(n1 == n2))) := ⟨_, rfl⟩
    rw [← hW]
    have hWh : FltR W b q m a0 f0 (!(n1 == n2)) (.slice none 0 0) e0 := by rw [hW]; exact (((HH.out.drewN na).s0 q).drewN nb).s4 (!(n1 == n2))
    have hW1 : FltR W g1 p1 m1 0 0 n1 r1 x1 := by rw [hW]; exact ((heap_setCell_other _ _ _ _ (by simpa using hb1.symm)).trans ((heap_setCell_other _ _ _ _ (by simpa using hb1.symm)).trans HG1.out))
    have hW2 : FltR W g2 p2 m2 0 0 n2 r2 x2 := by rw [hW]; exact ((heap_setCell_other _ _ _ _ (by simpa using hb2.symm)).trans ((heap_setCell_other _ _ _ _ (by simpa using hb2.symm)).trans HG2.out))
    have hWB : Hid (Below B w W) := Lib.hid (by rw [hW]; exact bset (i := 4) (u := .bool (!(n1 == n2))) (undrewN' (n := nb) (bset (i := 0) (u := .int .u32 (q : Int)) (undrewN' (n := na) (Below.refl B w)) hB)) hB)
    clear hW c0 c3 c4 f0' f1' f2' f3' f4' f5' f6' y0 y1 y2 y3 y4 y5 y6 z0 z1 z2 z3 z4 z5 z6
    obtain ⟨c0, c1, c2, c3, c4, c5, c6⟩ := hWh.cells
    obtain ⟨f0', f1', f2', f3', f4', f5', f6'⟩ := hWh.free
    obtain ⟨y0, y1, y2, y3', y4, y5, y6⟩ := hW1.cells
    obtain ⟨z0, z1, z2, z3', z4, z5, z6⟩ := hW2.cells
    have y3 : W.cell? ⟨g1, 3, none⟩ = some (.int .u8 0) := y3'
    have z3 : W.cell? ⟨g2, 3, none⟩ = some (.int .u8 0) := z3'
    have HR := Lib.hid ((hWh.s2 0).s3 0)
    have HB5 := Lib.hid (bset (i := 3) (u := .int .u8 (0 : Int)) (bset (i := 2) (u := .int .i8 0) hWB.out hB) hB)
    clear y3' z3' hWh hW1 hW2
    go_wp2
    go_ret
    exact ⟨rfl, HR.out, HB5.out⟩
  · have t0 : ((p0 : Int) == 0) = false := by rw [beq_eq_false_iff_ne]; omega
    have hqq : q = p0 := by rw [hq]; unfold pOf; rw [if_neg hz]
    have hz' : ¬ q = 0 := by omega
    clear hq hz
    subst hqq
    obtain rfl : sg = (!(n1 == n2)) := Hsg.out
    go_enter Tryz.func38, Tryz.ntmps38
    go_wp2_with fail
    (refine wp_region_hoist 12 (by kernel_rfl) (by kernel_rfl) ⟨fun _ _ _ h => (by first | exact (hQp _ _ _ h).elim | cases h.2.1 | (obtain ⟨_, h3, _⟩ := h.2; cases h3)), fun _ _ h => (by first | exact (hQo _ _ h).elim | cases h.1 | (obtain ⟨_, h3, _⟩ := h; cases h3))⟩ ?_; simp only [List.take_succ_cons, List.take_zero, List.drop_succ_cons, List.drop_zero]; (repeat (go_big_quiet_step (fail))); refine wpQuiet_nil ?_; rintro _ ⟨nq, rfl⟩)
    generalize nq = nb
    go_upto_region 4 with fail
    obtain ⟨W, hW⟩ : ∃ W, W = (w.drewN nb).setCell ⟨b, 4, none⟩ (.bool (!(n1 == n2))) := ⟨_, rfl⟩
    rw [← hW]
    have hWh : FltR W b q m a0 f0 (!(n1 == n2)) (.slice none 0 0) e0 := by rw [hW]; exact (HH.out.drewN nb).s4 (!(n1 == n2))
    have hW1 : FltR W g1 p1 m1 0 0 n1 r1 x1 := by rw [hW]; exact ((heap_setCell_other _ _ _ _ (by simpa using hb1.symm)).trans HG1.out)
    have hW2 : FltR W g2 p2 m2 0 0 n2 r2 x2 := by rw [hW]; exact ((heap_setCell_other _ _ _ _ (by simpa using hb2.symm)).trans HG2.out)
    have hWB : Hid (Below B w W) := Lib.hid (by rw [hW]; exact bset (i := 4) (u := .bool (!(n1 == n2))) (undrewN' (n := nb) (Below.refl B w)) hB)
    clear hW c0 c3 c4 f0' f1' f2' f3' f4' f5' f6' y0 y1 y2 y3 y4 y5 y6 z0 z1 z2 z3 z4 z5 z6
    obtain ⟨c0, c1, c2, c3, c4, c5, c6⟩ := hWh.cells
    obtain ⟨f0', f1', f2', f3', f4', f5', f6'⟩ := hWh.free
    obtain ⟨y0, y1, y2, y3', y4, y5, y6⟩ := hW1.cells
    obtain ⟨z0, z1, z2, z3', z4, z5, z6⟩ := hW2.cells
    have y3 : W.cell? ⟨g1, 3, none⟩ = some (.int .u8 0) := y3'
    have z3 : W.cell? ⟨g2, 3, none⟩ = some (.int .u8 0) := z3'
    have HR := Lib.hid ((hWh.s2 0).s3 0)
    have HB5 := Lib.hid (bset (i := 3) (u := .int .u8 (0 : Int)) (bset (i := 2) (u := .int .i8 0) hWB.out hB) hB)
    clear y3' z3' hWh hW1 hW2
    go_wp2
    go_ret
    exact ⟨rfl, HR.out, HB5.out⟩
set_option maxRecDepth 100000 in
set_option maxHeartbeats 6400000 in
theorem mulF_01 (b B B1 B2 g1 g2 p0 m p1 m1 p2 m2 f0 M N : Nat) (a0 e0 E F : Int) (nz n1 n2 : Bool) (w : World) (h : FltR w b p0 m a0 f0 nz (.slice none 0 0) e0) (hB : B ≤ b) (h1 : FloatAt w B1 g1 p1 m1 0 n1 M E) (h2 : FloatAt w B2 g2 p2 m2 1 n2 N F)
    (hb1 : b ≠ g1) (hb2 : b ≠ g2) (hp0 : p0 ≤ 64000000) (hp11 : 0 < p1) (hp1' : p1 ≤ 64000000) (hp22 : 0 < p2) (hp2' : p2 ≤ 64000000) :
    Calls Tryz.prog 38 #[.pointer (some ⟨b, 0, none⟩), .pointer (some ⟨g1, 0, none⟩), .pointer (some ⟨g2, 0, none⟩)] w fun e' w' => e' = .returned (.pointer (some ⟨b, 0, none⟩)) ∧
      FltR w' b (pOf p0 (max p1 p2)) m 0 0 (n1 != n2) (.slice none 0 0) e0 ∧ Below B w w' := by
  obtain ⟨q, hq⟩ : ∃ q, q = pOf p0 (max p1 p2) := ⟨_, rfl⟩
  have hq0 : 0 < q := by rw [hq]; unfold pOf; split <;> omega
  have hqb : q ≤ 64000000 := by rw [hq]; unfold pOf; split <;> omega
  rw [← hq]
  have hne1 : ¬ b = g1 := hb1
  have hne1' : ¬ g1 = b := fun h => hne1 h.symm
  have hne2 : ¬ b = g2 := hb2
  have hne2' : ¬ g2 = b := fun h => hne2 h.symm
  obtain ⟨r1, x1, hg1⟩ := h1.row
  obtain ⟨r2, x2, hg2⟩ := h2.row
  obtain ⟨c0, c1, c2, c3, c4, c5, c6⟩ := h.cells
  obtain ⟨f0', f1', f2', f3', f4', f5', f6'⟩ := h.free
  obtain ⟨y0, y1, y2, y3', y4, y5, y6⟩ := hg1.cells
  obtain ⟨z0, z1, z2, z3', z4, z5, z6⟩ := hg2.cells
  have y3 : w.cell? ⟨g1, 3, none⟩ = some (.int .u8 0) := y3'
  have z3 : w.cell? ⟨g2, 3, none⟩ = some (.int .u8 1) := z3'
  have HH := Lib.hid h
  have HX := Lib.hid h1
  have HY := Lib.hid h2
  have HG1 := Lib.hid hg1
  have HG2 := Lib.hid hg2
  obtain ⟨sg, hsg⟩ : ∃ sg, sg = (n1 != n2) := ⟨_, rfl⟩
  have Hsg := Lib.hid hsg
  rw [← hsg]
  clear h h1 h2 hg1 hg2 y3' z3' c1 c2 c5 c6 hsg
  by_cases hz : p0 = 0
  · have t0 : ((p0 : Int) == 0) = true := by rw [hz]; rfl
    have em : max (p1 : Int) (p2 : Int) = (q : Int) := by rw [hq]; unfold pOf; rw [if_pos hz]; omega
    clear hq hz
    obtain rfl : sg = (!(n1 == n2)) := Hsg.out
    go_enter Tryz.func38, Tryz.ntmps38
    go_wp2_with fail
    (refine wp_region_hoist 12 (by kernel_rfl) (by kernel_rfl) ⟨fun _ _ _ h => (by first | exact (hQp _ _ _ h).elim | cases h.2.1 | (obtain ⟨_, h3, _⟩ := h.2; cases h3)), fun _ _ h => (by first | exact (hQo _ _ h).elim | cases h.1 | (obtain ⟨_, h3, _⟩ := h; cases h3))⟩ ?_; simp only [List.take_succ_cons, List.take_zero, List.drop_succ_cons, List.drop_zero]; (repeat (go_big_quiet_step (fail))); refine wpQuiet_nil ?_; rintro _ ⟨nq, rfl⟩)
    generalize nq = na
    go_wp2_with fail
    (refine wp_region_hoist 12 (by kernel_rfl) (by kernel_rfl) ⟨fun _ _ _ h => (by first | exact (hQp _ _ _ h).elim | cases h.2.1 | (obtain ⟨_, h3, _⟩ := h.2; cases h3)), fun _ _ h => (by first | exact (hQo _ _ h).elim | cases h.1 | (obtain ⟨_, h3, _⟩ := h; cases h3))⟩ ?_; simp only [List.take_succ_cons, List.take_zero, List.drop_succ_cons, List.drop_zero]; (repeat (go_big_quiet_step (fail))); refine wpQuiet_nil ?_; rintro _ ⟨nq, rfl⟩)
    generalize nq = nb
    go_upto_region 4 with fail
    obtain ⟨W, hW⟩ : ∃ W, W = (((w.drewN na).setCell ⟨b, 0, none⟩ (.int .u32 (q : Int))).drewN nb).setCell ⟨b, 4, none⟩ (.bool (!(n1 == n2))) := ⟨_, rfl⟩
    rw [← hW]
    have hWh : FltR W b q m a0 f0 (!(n1 == n2)) (.slice none 0 0) e0 := by rw [hW]; exact (((HH.out.drewN na).s0 q).drewN nb).s4 (!(n1 == n2))
    have hW1 : FltR W g1 p1 m1 0 0 n1 r1 x1 := by rw [hW]; exact ((heap_setCell_other _ _ _ _ (by simpa using hb1.symm)).trans ((heap_setCell_other _ _ _ _ (by simpa using hb1.symm)).trans HG1.out))
    have hW2 : FltR W g2 p2 m2 0 1 n2 r2 x2 := by rw [hW]; exact ((heap_setCell_other _ _ _ _ (by simpa using hb2.symm)).trans ((heap_setCell_other _ _ _ _ (by simpa using hb2.symm)).trans HG2.out))
    have hWB : Hid (Below B w W) := Lib.hid (by rw [hW]; exact bset (i := 4) (u := .bool (!(n1 == n2))) (undrewN' (n := nb) (bset (i := 0) (u := .int .u32 (q : Int)) (undrewN' (n := na) (Below.refl B w)) hB)) hB)
    clear hW c0 c3 c4 f0' f1' f2' f3' f4' f5' f6' y0 y1 y2 y3 y4 y5 y6 z0 z1 z2 z3 z4 z5 z6
    obtain ⟨c0, c1, c2, c3, c4, c5, c6⟩ := hWh.cells
    obtain ⟨f0', f1', f2', f3', f4', f5', f6'⟩ := hWh.free
    obtain ⟨y0, y1, y2, y3', y4, y5, y6⟩ := hW1.cells
    obtain ⟨z0, z1, z2, z3', z4, z5, z6⟩ := hW2.cells
    have y3 : W.cell? ⟨g1, 3, none⟩ = some (.int .u8 0) := y3'
    have z3 : W.cell? ⟨g2, 3, none⟩ = some (.int .u8 1) := z3'
    have HR := Lib.hid ((hWh.s2 0).s3 0)
    have HB5 := Lib.hid (bset (i := 3) (u := .int .u8 (0 : Int)) (bset (i := 2) (u := .int .i8 0) hWB.out hB) hB)
    clear y3' z3' hWh hW1 hW2
    go_wp2
    go_ret
    exact ⟨rfl, HR.out, HB5.out⟩
  · have t0 : ((p0 : Int) == 0) = false := by rw [beq_eq_false_iff_ne]; omega
    have hqq : q = p0 := by rw [hq]; unfold pOf; rw [if_neg hz]
    have hz' : ¬ q = 0 := by omega
    clear hq hz
    subst hqq
    obtain rfl : sg = (!(n1 == n2)) := Hsg.out
    go_enter Tryz.func38, Tryz.ntmps38
    go_wp2_with fail
    (refine wp_region_hoist 12 (by kernel_rfl) (by kernel_rfl) ⟨fun _ _ _ h => (by first | exact (hQp _ _ _ h).elim | cases h.2.1 | (obtain ⟨_, h3, _⟩ := h.2; cases h3)), fun _ _ h => (by first | exact (hQo _ _ h).elim | cases h.1 | (obtain ⟨_, h3, _⟩ := h; cases h3))⟩ ?_; simp only [List.take_succ_cons, List.take_zero, List.drop_succ_cons, List.drop_zero]; (repeat (go_big_quiet_step (fail))); refine wpQuiet_nil ?_; rintro _ ⟨nq, rfl⟩)
    generalize nq = nb
    go_upto_region 4 with fail
    obtain ⟨W, hW⟩ : ∃ W, W = (w.drewN nb).setCell ⟨b, 4, none⟩ (.bool (!(n1 == n2))) := ⟨_, rfl⟩
    rw [← hW]
    have hWh : FltR W b q m a0 f0 (!(n1 == n2)) (.slice none 0 0) e0 := by rw [hW]; exact (HH.out.drewN nb).s4 (!(n1 == n2))
    have hW1 : FltR W g1 p1 m1 0 0 n1 r1 x1 := by rw [hW]; exact ((heap_setCell_other _ _ _ _ (by simpa using hb1.symm)).trans HG1.out)
    have hW2 : FltR W g2 p2 m2 0 1 n2 r2 x2 := by rw [hW]; exact ((heap_setCell_other _ _ _ _ (by simpa using hb2.symm)).trans HG2.out)
    have hWB : Hid (Below B w W) := Lib.hid (by rw [hW]; exact bset (i := 4) (u := .bool (!(n1 == n2))) (undrewN' (n := nb) (Below.refl B w)) hB)
    clear hW c0 c3 c4 f0' f1' f2' f3' f4' f5' f6' y0 y1 y2 y3 y4 y5 y6 z0 z1 z2 z3 z4 z5 z6
    obtain ⟨c0, c1, c2, c3, c4, c5, c6⟩ := hWh.cells
    obtain ⟨f0', f1', f2', f3', f4', f5', f6'⟩ := hWh.free
    obtain ⟨y0, y1, y2, y3', y4, y5, y6⟩ := hW1.cells
    obtain ⟨z0, z1, z2, z3', z4, z5, z6⟩ := hW2.cells
    have y3 : W.cell? ⟨g1, 3, none⟩ = some (.int .u8 0) := y3'
    have z3 : W.cell? ⟨g2, 3, none⟩ = some (.int .u8 1) := z3'
    have HR := Lib.hid ((hWh.s2 0).s3 0)
    have HB5 := Lib.hid (bset (i := 3) (u := .int .u8 (0 : Int)) (bset (i := 2) (u := .int .i8 0) hWB.out hB) hB)
    clear y3' z3' hWh hW1 hW2
    go_wp2
    go_ret
    exact ⟨rfl, HR.out, HB5.out⟩
set_option maxRecDepth 100000 in
set_option maxHeartbeats 6400000 in
theorem mulF_10 (b B B1 B2 g1 g2 p0 m p1 m1 p2 m2 f0 M N : Nat) (a0 e0 E F : Int) (nz n1 n2 : Bool) (w : World) (h : FltR w b p0 m a0 f0 nz (.slice none 0 0) e0) (hB : B ≤ b) (h1 : FloatAt w B1 g1 p1 m1 1 n1 M E) (h2 : FloatAt w B2 g2 p2 m2 0 n2 N F)
    (hb1 : b ≠ g1) (hb2 : b ≠ g2) (hp0 : p0 ≤ 64000000) (hp11 : 0 < p1) (hp1' : p1 ≤ 64000000) (hp22 : 0 < p2) (hp2' : p2 ≤ 64000000) :
    Calls Tryz.prog 38 #[.pointer (some ⟨b, 0, none⟩), .pointer (some ⟨g1, 0, none⟩), .pointer (some ⟨g2, 0, none⟩)] w fun e' w' => e' = .returned (.pointer (some ⟨b, 0, none⟩)) ∧
      FltR w' b (pOf p0 (max p1 p2)) m 0 0 (n1 != n2) (.slice none 0 0) e0 ∧ Below B w w' := by
  obtain ⟨q, hq⟩ : ∃ q, q = pOf p0 (max p1 p2) := ⟨_, rfl⟩
  have hq0 : 0 < q := by rw [hq]; unfold pOf; split <;> omega
  have hqb : q ≤ 64000000 := by rw [hq]; unfold pOf; split <;> omega
  rw [← hq]
  have hne1 : ¬ b = g1 := hb1
  have hne1' : ¬ g1 = b := fun h => hne1 h.symm
  have hne2 : ¬ b = g2 := hb2
  have hne2' : ¬ g2 = b := fun h => hne2 h.symm
  obtain ⟨r1, x1, hg1⟩ := h1.row
  obtain ⟨r2, x2, hg2⟩ := h2.row
  obtain ⟨c0, c1, c2, c3, c4, c5, c6⟩ := h.cells
  obtain ⟨f0', f1', f2', f3', f4', f5', f6'⟩ := h.free
  obtain ⟨y0, y1, y2, y3', y4, y5, y6⟩ := hg1.cells
  obtain ⟨z0, z1, z2, z3', z4, z5, z6⟩ := hg2.cells
  have y3 : w.cell? ⟨g1, 3, none⟩ = some (.int .u8 1) := y3'
  have z3 : w.cell? ⟨g2, 3, none⟩ = some (.int .u8 0) := z3'
  have HH := Lib.hid h
  have HX := Lib.hid h1
  have HY := Lib.hid h2
  have HG1 := Lib.hid hg1
  have HG2 := Lib.hid hg2
  obtain ⟨sg, hsg⟩ : ∃ sg, sg = (n1 != n2) := ⟨_, rfl⟩
  have Hsg := Lib.hid hsg
  rw [← hsg]
  clear h h1 h2 hg1 hg2 y3' z3' c1 c2 c5 c6 hsg
  by_cases hz : p0 = 0
  · have t0 : ((p0 : Int) == 0) = true := by rw [hz]; rfl
    have em : max (p1 : Int) (p2 : Int) = (q : Int) := by rw [hq]; unfold pOf; rw [if_pos hz]; omega
    clear hq hz
    obtain rfl : sg = (!(n1 == n2)) := Hsg.out
    go_enter Tryz.func38, Tryz.ntmps38
    go_wp2_with fail
    (refine wp_region_hoist 12 (by kernel_rfl) (by kernel_rfl) ⟨fun _ _ _ h => (by first | exact (hQp _ _ _ h).elim | cases h.2.1 | (obtain ⟨_, h3, _⟩ := h.2; cases h3)), fun _ _ h => (by first | exact (hQo _ _ h).elim | cases h.1 | (obtain ⟨_, h3, _⟩ := h; cases h3))⟩ ?_; simp only [List.take_succ_cons, List.take_zero, List.drop_succ_cons, List.drop_zero]; (repeat (go_big_quiet_step (fail))); refine wpQuiet_nil ?_; rintro _ ⟨nq, rfl⟩)
    generalize nq = na
    go_wp2_with fail
    (refine wp_region_hoist 12 (by kernel_rfl) (by kernel_rfl) ⟨fun _ _ _ h => (by first | exact (hQp _ _ _ h).elim | cases h.2.1 | (obtain ⟨_, h3, _⟩ := h.2; cases h3)), fun _ _ h => (by first | exact (hQo _ _ h).elim | cases h.1 | (obtain ⟨_, h3, _⟩ := h; cases h3))⟩ ?_; simp only [List.take_succ_cons, List.take_zero, List.drop_succ_cons, List.drop_zero]; (repeat (go_big_quiet_step (fail))); refine wpQuiet_nil ?_; rintro _ ⟨nq, rfl⟩)
    generalize nq = nb
    go_upto_region 4 with fail
    obtain ⟨W, hW⟩ : ∃ W, W = (((w.drewN na).setCell ⟨b, 0, none⟩ (.int .u32 (q : Int))).drewN nb).setCell ⟨b, 4, none⟩ (.bool (!(n1 == n2))) := ⟨_, rfl⟩
    rw [← hW]
    have hWh : FltR W b q m a0 f0 (!(n1 == n2)) (.slice none 0 0) e0 := by rw [hW]; exact (((HH.out.drewN na).s0 q).drewN nb).s4 (!(n1 == n2))
    have hW1 : FltR W g1 p1 m1 0 1 n1 r1 x1 := by rw [hW]; exact ((heap_setCell_other _ _ _ _ (by simpa using hb1.symm)).trans ((heap_setCell_other _ _ _ _ (by simpa using hb1.symm)).trans HG1.out))
    have hW2 : FltR W g2 p2 m2 0 0 n2 r2 x2 := by rw [hW]; exact ((heap_setCell_other _ _ _ _ (by simpa using hb2.symm)).trans ((heap_setCell_other _ _ _ _ (by simpa using hb2.symm)).trans HG2.out))
    have hWB : Hid (Below B w W) := Lib.hid (by rw [hW]; exact bset (i := 4) (u := .bool (!(n1 == n2))) (undrewN' (n := nb) (bset (i := 0) (u := .int .u32 (q : Int)) (undrewN' (n := na) (Below.refl B w)) hB)) hB)
    clear hW c0 c3 c4 f0' f1' f2' f3' f4' f5' f6' y0 y1 y2 y3 y4 y5 y6 z0 z1 z2 z3 z4 z5 z6
    obtain ⟨c0, c1, c2, c3, c4, c5, c6⟩ := hWh.cells
    obtain ⟨f0', f1', f2', f3', f4', f5', f6'⟩ := hWh.free
    obtain ⟨y0, y1, y2, y3', y4, y5, y6⟩ := hW1.cells
    obtain ⟨z0, z1, z2, z3', z4, z5, z6⟩ := hW2.cells
    have y3 : W.cell? ⟨g1, 3, none⟩ = some (.int .u8 1) := y3'
    have z3 : W.cell? ⟨g2, 3, none⟩ = some (.int .u8 0) := z3'
    have HR := Lib.hid ((hWh.s2 0).s3 0)
    have HB5 := Lib.hid (bset (i := 3) (u := .int .u8 (0 : Int)) (bset (i := 2) (u := .int .i8 0) hWB.out hB) hB)
    clear y3' z3' hWh hW1 hW2
    go_wp2
    go_ret
    exact ⟨rfl, HR.out, HB5.out⟩
  · have t0 : ((p0 : Int) == 0) = false := by rw [beq_eq_false_iff_ne]; omega
    have hqq : q = p0 := by rw [hq]; unfold pOf; rw [if_neg hz]
    have hz' : ¬ q = 0 := by omega
    clear hq hz
    subst hqq
    obtain rfl : sg = (!(n1 == n2)) := Hsg.out
    go_enter Tryz.func38, Tryz.ntmps38
    go_wp2_with fail
    (refine wp_region_hoist 12 (by kernel_rfl) (by kernel_rfl) ⟨fun _ _ _ h => (by first | exact (hQp _ _ _ h).elim | cases h.2.1 | (obtain ⟨_, h3, _⟩ := h.2; cases h3)), fun _ _ h => (by first | exact (hQo _ _ h).elim | cases h.1 | (obtain ⟨_, h3, _⟩ := h; cases h3))⟩ ?_; simp only [List.take_succ_cons, List.take_zero, List.drop_succ_cons, List.drop_zero]; (repeat (go_big_quiet_step (fail))); refine wpQuiet_nil ?_; rintro _ ⟨nq, rfl⟩)
    generalize nq = nb
    go_upto_region 4 with fail
    obtain ⟨W, hW⟩ : ∃ W, W = (w.drewN nb).setCell ⟨b, 4, none⟩ (.bool (!(n1 == n2))) := ⟨_, rfl⟩
    rw [← hW]
    have hWh : FltR W b q m a0 f0 (!(n1 == n2)) (.slice none 0 0) e0 := by rw [hW]; exact (HH.out.drewN nb).s4 (!(n1 == n2))
    have hW1 : FltR W g1 p1 m1 0 1 n1 r1 x1 := by rw [hW]; exact ((heap_setCell_other _ _ _ _ (by simpa using hb1.symm)).trans HG1.out)
    have hW2 : FltR W g2 p2 m2 0 0 n2 r2 x2 := by rw [hW]; exact ((heap_setCell_other _ _ _ _ (by simpa using hb2.symm)).trans HG2.out)
    have hWB : Hid (Below B w W) := Lib.hid (by rw [hW]; exact bset (i := 4) (u := .bool (!(n1 == n2))) (undrewN' (n := nb) (Below.refl B w)) hB)
    clear hW c0 c3 c4 f0' f1' f2' f3' f4' f5' f6' y0 y1 y2 y3 y4 y5 y6 z0 z1 z2 z3 z4 z5 z6
    obtain ⟨c0, c1, c2, c3, c4, c5, c6⟩ := hWh.cells
    obtain ⟨f0', f1', f2', f3', f4', f5', f6'⟩ := hWh.free
    obtain ⟨y0, y1, y2, y3', y4, y5, y6⟩ := hW1.cells
    obtain ⟨z0, z1, z2, z3', z4, z5, z6⟩ := hW2.cells
    have y3 : W.cell? ⟨g1, 3, none⟩ = some (.int .u8 1) := y3'
    have z3 : W.cell? ⟨g2, 3, none⟩ = some (.int .u8 0) := z3'
    have HR := Lib.hid ((hWh.s2 0).s3 0)
    have HB5 := Lib.hid (bset (i := 3) (u := .int .u8 (0 : Int)) (bset (i := 2) (u := .int .i8 0) hWB.out hB) hB)
    clear y3' z3' hWh hW1 hW2
    go_wp2
    go_ret
    exact ⟨rfl, HR.out, HB5.out⟩
/-- Mul of a new receiver and operands that are not infinite. -/
theorem mulF_any (b B B1 B2 g1 g2 p0 m p1 m1 p2 m2 f0 f1 f2 M N : Nat) (a0 e0 E F : Int) (nz n1 n2 : Bool) (w : World) (h : FltR w b p0 m a0 f0 nz (.slice none 0 0) e0) (hB : B ≤ b) (hf1 : f1 ≤ 1) (hf2 : f2 ≤ 1) (h1 : FloatAt w B1 g1 p1 m1 f1 n1 M E) (h2 : FloatAt w B2 g2 p2 m2 f2 n2 N F)
    (k1 : f1 = 1 → 0 < M ∧ bl M ≤ p1 ∧ bl M ≤ 2400 ∧ -5000000 ≤ E ∧ E ≤ 5000000) (k2 : f2 = 1 → 0 < N ∧ bl N ≤ p2 ∧ bl N ≤ 2400 ∧ -5000000 ≤ F ∧ F ≤ 5000000) (hb1 : b ≠ g1) (hb2 : b ≠ g2) (hg : g1 ≠ g2) (hp0 : p0 ≤ 64000000) (hp11 : 0 < p1) (hp1' : p1 ≤ 64000000) (hp22 : 0 < p2) (hp2' : p2 ≤ 64000000) (hm : m ≤ 5) (hK : KarW w) :
    Calls Tryz.prog 38 #[.pointer (some ⟨b, 0, none⟩), .pointer (some ⟨g1, 0, none⟩), .pointer (some ⟨g2, 0, none⟩)] w fun e' w' => e' = .returned (.pointer (some ⟨b, 0, none⟩)) ∧
      AddR w' B b (pOf p0 (max p1 p2)) m (n1 != n2) (sI (n1 != n2) (dyM f1 M * dyM f2 N)) (dyE f1 E + dyE f2 F) ∧ Below B w w' := by
  rcases (by omega : f1 = 0 ∨ f1 = 1) with rfl | rfl <;> rcases (by omega : f2 = 0 ∨ f2 = 1) with rfl | rfl
  · refine (mulF_00 b B B1 B2 g1 g2 p0 m p1 m1 p2 m2 f0 M N a0 e0 E F nz n1 n2 w h hB h1 h2 hb1 hb2 hp0 hp11 hp1' hp22 hp2').mono ?_
    rintro _ w' ⟨rfl, k, hb⟩
    exact ⟨rfl, (AddR.zero (B := B) (X := 0) k).cast (by rw [show dyM 0 M = 0 from rfl, Nat.zero_mul, sI_zero]) rfl, hb⟩
  · refine (mulF_01 b B B1 B2 g1 g2 p0 m p1 m1 p2 m2 f0 M N a0 e0 E F nz n1 n2 w h hB h1 h2 hb1 hb2 hp0 hp11 hp1' hp22 hp2').mono ?_
    rintro _ w' ⟨rfl, k, hb⟩
    exact ⟨rfl, (AddR.zero (B := B) (X := dyE 0 E + dyE 1 F) k).cast (by rw [show dyM 0 M = 0 from rfl, Nat.zero_mul, sI_zero]) rfl, hb⟩
  · refine (mulF_10 b B B1 B2 g1 g2 p0 m p1 m1 p2 m2 f0 M N a0 e0 E F nz n1 n2 w h hB h1 h2 hb1 hb2 hp0 hp11 hp1' hp22 hp2').mono ?_
    rintro _ w' ⟨rfl, k, hb⟩
    exact ⟨rfl, (AddR.zero (B := B) (X := dyE 1 E + dyE 0 F) k).cast (by rw [show dyM 0 N = 0 from rfl, Nat.mul_zero, sI_zero]) rfl, hb⟩
  · obtain ⟨x1, x2, x3, x4, x5⟩ := k1 rfl
    obtain ⟨y1, y2, y3, y4, y5⟩ := k2 rfl
    refine (mulF_11 b B B1 B2 g1 g2 p0 m p1 m1 p2 m2 f0 M N a0 e0 E F nz n1 n2 w h hB h1 h2 x1 y1 x2 y2 x3 y3 (by omega) (by omega) (by omega) hg hm hK hb1 hb2 hp0 hp11 hp1' hp22 hp2').mono ?_
    rintro _ w' ⟨rfl, k, hb⟩
    exact ⟨rfl, AddR.pos (Nat.mul_pos x1 y1) k, hb⟩
end Go.Proofs.YtgclooabjilniaaGreatDoor
