/-
Texts of this proof, joined: FlX MoA SmA SnA SbA VvH. No condition.
-/
import Derived.Test.YtgbmlaffilccnaaGreatDoorK12
import Derived.Test.YtgbmlaffilccnaaGreatDoorK14
import Derived.Test.YtgbmlaffilccnaaGreatDoorK16
import Derived.Test.YtgbmlaffilccnaaGreatDoorK18
import Derived.Test.YtgbmlaffilccnaaGreatDoorK21
import Derived.Test.YtgbmlaffilccnaaGreatDoorK22
import Derived.Test.YtgbmlaffilccnaaGreatDoorK25
import Derived.Test.YtgbmlaffilccnaaGreatDoorK26
/-
The reference's Order of two dyadic values. No condition.
-/
namespace Go.Proofs.YtgbmlaffilccnaaGreatDoor
open Go.RowKit

theorem dSum (n1 n2 : Bool) (a b : Value) (e1 e2 e : Int) (x y A B : Nat) (w : World) (ha : NatV w a x) (hb : NatV w b y) (hm : min e1 e2 = e) (hs1 : e1 - e = (A : Int)) (hs2 : e2 - e = (B : Int)) (g1 : -2000000000 ≤ e1) (g2 : e1 ≤ 2000000000) (g3 : -2000000000 ≤ e2) (g4 : e2 ≤ 2000000000) (g5 : -2000000000 ≤ e)
    (hx : nl x ≤ 1000000000) (hy : nl y ≤ 1000000000) (hA : A ≤ 4000000000) (hB : B ≤ 4000000000) (hP : nl (x * 2 ^ A) ≤ 1000000000) (hQ : nl (y * 2 ^ B) ≤ 1000000000) :
    Calls Tryz.prog 13 #[.agg #[.bool n1, a, .int .i64 e1], .agg #[.bool n2, b, .int .i64 e2]] w fun e' w' => ∃ r, e' = .returned r ∧ SumP (x * 2 ^ A) (y * 2 ^ B) n1 n2 e w r w' := by
  cases n1 <;> cases n2
  · exact dSum_ff a b e1 e2 e x y A B w ha hb hm hs1 hs2 g1 g2 g3 g4 g5 hx hy hA hB hP hQ
  · exact dSum_ft a b e1 e2 e x y A B w ha hb hm hs1 hs2 g1 g2 g3 g4 g5 hx hy hA hB hP hQ
  · exact dSum_tf a b e1 e2 e x y A B w ha hb hm hs1 hs2 g1 g2 g3 g4 g5 hx hy hA hB hP hQ
  · exact dSum_tt a b e1 e2 e x y A B w ha hb hm hs1 hs2 g1 g2 g3 g4 g5 hx hy hA hB hP hQ
theorem sI_not (n : Bool) (x : Nat) : sI (!n) x = - sI n x := by cases n <;> simp [sI]
theorem sgD_cmp {ng : Bool} {M : Nat} {i j : Int} (h : sI ng M = i - j) : sgD ng M = cmpI i j := by
  unfold sgD
  by_cases h0 : M = 0
  · subst h0
    have : i = j := by cases ng <;> simp [sI] at h <;> omega
    rw [if_pos rfl, this]; unfold cmpI; rw [if_neg (by omega), if_neg (by omega)]
  · rw [if_neg h0]
    cases ng
    · have h' : (M : Int) = i - j := h
      rw [cmpI_gt (by omega)]; rfl
    · have h' : -(M : Int) = i - j := h
      rw [cmpI_lt (by omega)]; rfl
set_option maxRecDepth 100000 in
set_option maxHeartbeats 1600000 in
theorem dOrder (n1 n2 : Bool) (a b : Value) (e1 e2 e : Int) (x y A B : Nat) (w : World) (ha : NatV w a x) (hb : NatV w b y) (hm : min e1 e2 = e) (hs1 : e1 - e = (A : Int)) (hs2 : e2 - e = (B : Int)) (g1 : -2000000000 ≤ e1) (g2 : e1 ≤ 2000000000) (g3 : -2000000000 ≤ e2) (g4 : e2 ≤ 2000000000) (g5 : -2000000000 ≤ e)
    (hx : nl x ≤ 1000000000) (hy : nl y ≤ 1000000000) (hA : A ≤ 4000000000) (hB : B ≤ 4000000000) (hP : nl (x * 2 ^ A) ≤ 1000000000) (hQ : nl (y * 2 ^ B) ≤ 1000000000) :
    Calls Tryz.prog 12 #[.agg #[.bool n1, a, .int .i64 e1], .agg #[.bool n2, b, .int .i64 e2]] w fun e' w' => e' = .returned (.int .i64 (cmpI (sI n1 (x * 2 ^ A)) (sI n2 (y * 2 ^ B)))) ∧ Below w.heap.size w w' := by
  have hSa := ha.isS
  have hSb := hb.isS
  have HS : Hid (∀ W : World, NatV W a x → NatV W b y → Calls Tryz.prog 13 #[.agg #[.bool n1, a, .int .i64 e1], .agg #[.bool (!n2), b, .int .i64 e2]] W fun e' w' => ∃ r, e' = .returned r ∧ SumP (x * 2 ^ A) (y * 2 ^ B) n1 (!n2) e W r w') :=
    Lib.hid fun W h1 h2 => dSum n1 (!n2) a b e1 e2 e x y A B W h1 h2 hm hs1 hs2 g1 g2 g3 g4 g5 hx hy hA hB hP hQ
  clear hm hs1 hs2 g1 g2 g3 g4 g5 hx hy hA hB hP hQ
  have hab := (Below.refl w.heap.size w).alloc (Nat.le_refl _) (.cells #[.bool n1, a, .int .i64 e1] 36)
  have hac := hab.alloc hab.size (.cells #[.bool n2, b, .int .i64 e2] 36)
  obtain ⟨X, hX⟩ : ∃ X, X = (w.alloc (.cells #[.bool n1, a, .int .i64 e1] 36)).alloc (.cells #[.bool n2, b, .int .i64 e2] 36) := ⟨_, rfl⟩
  have hr1 : X.heap[w.heap.size]? = some (.cells #[.bool n1, a, .int .i64 e1] 36 (0, 0)) := by
    rw [hX]; exact keep_row (fbone _) (box_row (Below.refl _ _))
  have hr2 : X.heap[w.heap.size + 1]? = some (.cells #[.bool n2, b, .int .i64 e2] 36 (0, 0)) := by
    rw [hX]
    have := box_row (Below.refl _ ((w.alloc (.cells #[.bool n1, a, .int .i64 e1] 36)).alloc (.cells #[.bool n2, b, .int .i64 e2] 36)))
    simpa using this
  rw [← hX] at hac
  obtain ⟨x0, x1, x2, -, -, -⟩ := row3 hr1
  obtain ⟨y0, y1, y2, -, -, -⟩ := row3 hr2
  have NA := Lib.hid (ha.below hac)
  have NB := Lib.hid (hb.below hac)
  have HW := Lib.hid hac
  have hXs := hac.size
  have hcc := Below.refl X.heap.size X
  obtain ⟨P, hP⟩ : ∃ P, P = x * 2 ^ A := ⟨_, rfl⟩
  obtain ⟨Q, hQ⟩ : ∃ Q, Q = y * 2 ^ B := ⟨_, rfl⟩
  rw [← hP, ← hQ] at HS ⊢
  clear hr1 hr2 hab hac ha hb hP hQ
  go_enter Tryz.func12, Tryz.ntmps12
  go_upto_region 1 with fail
  rw [← hX]
  clear hX
  first
    | (go_region_held3 (fun w' => w'.cell? ⟨w.heap.size, 0, none⟩ = some (.bool n1) ∧ w'.cell? ⟨w.heap.size, 1, none⟩ = some a ∧ w'.cell? ⟨w.heap.size, 2, none⟩ = some (.int .i64 e1) ∧ w'.cell? ⟨w.heap.size + 1, 0, none⟩ = some (.bool n2) ∧ w'.cell? ⟨w.heap.size + 1, 1, none⟩ = some b ∧ w'.cell? ⟨w.heap.size + 1, 2, none⟩ = some (.int .i64 e2))
        ((refine ks6 x0 x1 x2 y0 y1 y2 ?_; first | assumption | exact Below.drew hcc))
        (first
          | (go_at_call 15; refine (dOpp n2 b e2 _ hSb).mono ?_; rintro _ w3 ⟨rfl, hb3⟩; have hb3 : Below X.heap.size X w3 := bthen (Below.drew hcc) hb3)
          | (go_at_call 13; refine (HS.out _ (NA.out.below hb3) (NB.out.below hb3)).mono ?_; rintro _ w4 ⟨_, rfl, ng, M, ⟨q, rfl, hq⟩, hM, hb4⟩; have hSq := hq.isS; have hb4 := bthen hb3 hb4; have HM := Lib.hid hM; have HQ4 := Lib.hid hq; clear hM hq)
          | (go_at_call 27; refine (dSign ng q e M _ HQ4.out).mono ?_; rintro _ w5 ⟨rfl, hb5⟩; have hb5 := bthen hb4 hb5)))
    | fail
  all_goals
    go_wp2
    go_ret
    have k := HM.out
    rw [sI_not] at k
    exact ⟨congrArg (fun z => Ending.returned (.int .i64 z)) (sgD_cmp (i := sI n1 P) (j := sI n2 Q) (by omega)), HW.out.trans (hb5.mono hXs)⟩
end Go.Proofs.YtgbmlaffilccnaaGreatDoor

/-
Rounding is monotone. Plain law. No condition.
-/
namespace Go.Proofs.YtgbmlaffilccnaaGreatDoor
open Go.RowKit

theorem lef_mono {R R' D : Nat} (h : R ≤ R') : lef R D 0 ≤ lef R' D 0 := by
  unfold lef; repeat' split
  all_goals omega
theorem awy_mono {neg odd : Bool} {l l' m : Nat} (h : l ≤ l') (hl : l' ≤ 3) (hu : awy neg odd l m = true) : awy neg odd l' m = true := by
  have c : l = 0 ∨ l = 1 ∨ l = 2 ∨ l = 3 := by omega
  have c' : l' = 0 ∨ l' = 1 ∨ l' = 2 ∨ l' = 3 := by omega
  unfold awy at hu ⊢
  rcases c with rfl | rfl | rfl | rfl <;> rcases c' with rfl | rfl | rfl | rfl <;> first | omega | (cases odd <;> cases neg <;> revert hu <;> (repeat' split) <;> simp)
theorem rQ_mono {p m M N : Nat} (neg : Bool) (hp : 0 < p) (h : M ≤ N) : rQ p m neg 0 M * 2 ^ rk p M ≤ rQ p m neg 0 N * 2 ^ rk p N := by
  have hbl := bl_mono h
  rcases Nat.lt_or_ge (rk p M) (rk p N) with hk | hk
  · have hN : p < bl N := by unfold rk at hk; omega
    obtain ⟨b1, -, -⟩ := rQ_bound (m := m) neg 0 hp hN
    have h1 : rQ p m neg 0 M * 2 ^ rk p M ≤ 2 ^ bl M := by
      rcases Nat.lt_or_ge p (bl M) with hM | hM
      · have := (rQ_bound (m := m) neg 0 hp hM).2.2
        have e : 2 ^ bl M = 2 ^ p * 2 ^ rk p M := by rw [← Nat.pow_add]; congr 1; unfold rk; omega
        rw [e]; exact Nat.mul_le_mul_right _ this
      · obtain ⟨k0, q0, -⟩ := rQ_fits (m := m) neg hM
        rw [k0, q0, Nat.pow_zero, Nat.mul_one]; exact Nat.le_of_lt (lt_bl M)
    have h2 : 2 ^ bl M ≤ 2 ^ (p - 1) * 2 ^ rk p N := by rw [← Nat.pow_add]; exact Nat.pow_le_pow_right (by decide) (by unfold rk at *; omega)
    have h3 : N / 2 ^ rk p N ≤ rQ p m neg 0 N := Nat.le_add_right _ _
    exact Nat.le_trans h1 (Nat.le_trans h2 (Nat.mul_le_mul_right _ (Nat.le_trans b1 h3)))
  · have hk' : rk p M = rk p N := by unfold rk at *; omega
    unfold rQ rU rL
    rw [hk']
    obtain ⟨D, hD⟩ : ∃ D, D = 2 ^ rk p N := ⟨_, rfl⟩
    rw [← hD]
    have hD0 : 0 < D := by rw [hD]; exact Nat.two_pow_pos _
    refine Nat.mul_le_mul_right _ ?_
    have hd : M / D ≤ N / D := Nat.div_le_div_right h
    rcases Nat.lt_or_eq_of_le hd with hlt | heq
    · split <;> split <;> omega
    · have hr : M % D ≤ N % D := by
        have a1 := Nat.div_add_mod M D
        have a2 := Nat.div_add_mod N D
        rw [heq] at a1
        omega
      rw [heq]
      cases hu : awy neg (decide (N / D % 2 = 1)) (lef (M % D) D 0) m with
      | false => simp
      | true => rw [awy_mono (lef_mono hr) (lef_le _ _ _) hu]; exact Nat.le_refl _
def vN (V : Int) : Bool := decide (V < 0)
/-- The rounded value, at the exact value's exponent. -/
def rV (p m : Nat) (V : Int) : Int := sI (vN V) (rQ p m (vN V) 0 V.natAbs * 2 ^ rk p V.natAbs)
theorem rV_mono {p m : Nat} {V W : Int} (hp : 0 < p) (h : V ≤ W) : rV p m V ≤ rV p m W := by
  unfold rV vN
  by_cases h1 : V < 0 <;> by_cases h2 : W < 0
  · rw [decide_eq_true h1, decide_eq_true h2]
    have := rQ_mono (p := p) (m := m) true hp (show W.natAbs ≤ V.natAbs by omega)
    simp only [sI, if_true]; omega
  · rw [decide_eq_true h1, decide_eq_false h2]
    simp only [sI, if_true, Bool.false_eq_true, if_false]; omega
  · omega
  · rw [decide_eq_false h1, decide_eq_false h2]
    have := rQ_mono (p := p) (m := m) false hp (show V.natAbs ≤ W.natAbs by omega)
    simp only [sI, Bool.false_eq_true, if_false]; omega
end Go.Proofs.YtgbmlaffilccnaaGreatDoor

/-
The reference's sum of two dyadic values, by its value; what is plain in it. No condition.
-/
namespace Go.Proofs.YtgbmlaffilccnaaGreatDoor
open Go.RowKit

/-- The sum of two dyadic values, at the lower exponent. -/
def smV (n1 : Bool) (M : Nat) (E : Int) (n2 : Bool) (N : Nat) (F : Int) : Int := sI n1 (lo M E (min E F)) + sI n2 (lo N F (min E F))
theorem natAbs_sI (n : Bool) (S : Nat) : (sI n S).natAbs = S := by cases n <;> simp [sI]
theorem vN_sI {n : Bool} {S : Nat} (h : 0 < S) : vN (sI n S) = n := by
  cases n
  · simp [sI, vN]
  · simp [sI, vN]; omega
theorem sI_ne {n : Bool} {S : Nat} (h : 0 < S) : sI n S ≠ 0 := by
  cases n
  · simp [sI]; omega
  · simp [sI]; omega
theorem lo_zero (E e : Int) : lo 0 E e = 0 := Nat.zero_mul _
theorem sI_zero (n : Bool) : sI n 0 = 0 := by cases n <;> rfl
theorem smV_bl (n1 : Bool) (M : Nat) (E : Int) (n2 : Bool) (N : Nat) (F : Int) : bl (smV n1 M E n2 N F).natAbs ≤ max (bl M + (E - min E F).toNat) (bl N + (F - min E F).toNat) + 1 := by
  refine Nat.le_trans (bl_mono ?_) (bl_suM M E N F)
  unfold smV suM; cases n1 <;> cases n2 <;> simp [sI] <;> omega
theorem dy_bd {P E p m f : Nat} {ws : List Nat} {e : Int} (h : RealOk P E p m f ws e) : bl (dyM f (wv ws)) ≤ P ∧ -(E : Int) ≤ dyE f e ∧ dyE f e ≤ E := by
  by_cases hf : f = 1
  · subst hf
    obtain ⟨-, h2, -, h | h | ⟨-, h3, h4, h5, h6, h7⟩⟩ := h
    · omega
    · omega
    · exact ⟨Nat.le_trans h4 h2, h6, h7⟩
  · unfold dyM dyE; rw [if_neg hf, if_neg hf, bl_zero]; omega
/-- The reference's sum of two dyadic values. -/
theorem dSum_sm (n1 n2 : Bool) (a b : Value) (e1 e2 : Int) (x y : Nat) (w : World) (ha : NatV w a x) (hb : NatV w b y) (hx : bl x ≤ 1000000) (hy : bl y ≤ 1000000) (g1 : -1000000 ≤ e1 ∧ e1 ≤ 1000000) (g2 : -1000000 ≤ e2 ∧ e2 ≤ 1000000) :
    Calls Tryz.prog 13 #[.agg #[.bool n1, a, .int .i64 e1], .agg #[.bool n2, b, .int .i64 e2]] w fun e' w' => ∃ ng c M, e' = .returned (.agg #[.bool ng, c, .int .i64 (min e1 e2)]) ∧ NatV w' c M ∧ sI ng M = smV n1 x e1 n2 y e2 ∧ Below w.heap.size w w' := by
  have k1 := bl_two x (e1 - min e1 e2).toNat
  have k2 := bl_two y (e2 - min e1 e2).toNat
  refine (dSum n1 n2 a b e1 e2 (min e1 e2) x y (e1 - min e1 e2).toNat (e2 - min e1 e2).toNat w ha hb rfl (by omega) (by omega) (by omega) (by omega) (by omega) (by omega) (by omega)
    (nl_of_bl (by omega)) (nl_of_bl (by omega)) (by omega) (by omega) (nl_of_bl (by omega)) (nl_of_bl (by omega))).mono ?_
  rintro _ w' ⟨r, rfl, ng, M, ⟨c, rfl, hc⟩, hs, hb⟩
  exact ⟨ng, c, M, rfl, hc, hs, hb⟩
theorem sum_bl {ng : Bool} {M : Nat} {V : Int} (h : sI ng M = V) : bl M = bl V.natAbs := by rw [← h, natAbs_sI]
end Go.Proofs.YtgbmlaffilccnaaGreatDoor

/-
What the laws on sums and products share, off the walks of Add. No condition.
-/
namespace Go.Proofs.YtgbmlaffilccnaaGreatDoor
open Go.RowKit

theorem deq_zero {N M : Nat} {X Y : Int} (h : deq N X M Y) (h0 : N = 0) : M = 0 := by
  obtain ⟨i, j, h1, -⟩ := h
  rw [h0, Nat.zero_mul] at h1
  rcases Nat.mul_eq_zero.1 h1.symm with h2 | h2
  · exact h2
  · exact absurd h2 (Nat.ne_of_gt (Nat.two_pow_pos _))
/-- A float as impl.float makes it: its words. -/
theorem FloatAt.open {w : World} {B g p m M : Nat} {n : Bool} {E : Int} (h : FloatAt w B g p m 1 n M E) (hM : 0 < M) (hp : bl M ≤ p) (hb : bl M ≤ 10000) :
    ∃ r x, FltR w g p m 0 1 n r x ∧ Own w B 116 r (cellsW (topN M)) ∧ Good (topN M) p ∧ (topN M).length ≤ 200 ∧ x = (bl M : Nat) + E ∧ deq (wv (topN M)) (x - 64 * ((topN M).length : Int)) M E := by
  obtain ⟨-, r, x, h1, h2⟩ := h
  obtain ⟨hx, h3⟩ := h2 rfl
  have hn := nw_bl hM
  have hl : (topN M).length = nw M := topN_length _
  refine ⟨r, x, h1, h3, topN_good hM hp (by omega), by rw [hl]; omega, hx, ?_⟩
  rw [hl, topN_wv hM, hx]
  exact ⟨0, 64 * nw M - bl M, by simp, by omega⟩
/-- What Add leaves in its receiver: the rounded value V times 2 to X; zn is the sign of zero. -/
def AddR (w : World) (B b q m : Nat) (zn : Bool) (V X : Int) : Prop :=
  FVal w B b q m (rA q m (vN V) 0 V.natAbs) (fO V.natAbs) (if V = 0 then zn else vN V) (rQ q m (vN V) 0 V.natAbs) (X + rk q V.natAbs)
theorem AddR.pos {w : World} {B b q m S : Nat} {zn n : Bool} {X : Int} (h : 0 < S) (hF : FVal w B b q m (rA q m n 0 S) 1 n (rQ q m n 0 S) (X + rk q S)) : AddR w B b q m zn (sI n S) X := by
  unfold AddR
  rw [natAbs_sI, vN_sI h, fO, if_neg (Nat.ne_of_gt h), if_neg (sI_ne h)]
  exact hF
theorem AddR.zero {w : World} {B b q m : Nat} {zn : Bool} {X e : Int} {v : Value} (h : FltR w b q m 0 0 zn v e) : AddR w B b q m zn 0 X := by
  unfold AddR
  obtain ⟨h1, h2, h3⟩ := rQ_zero q m (vN 0)
  rw [Int.natAbs_zero, h3, if_pos rfl, show fO 0 = 0 from rfl]
  exact ⟨v, e, h, fun hc => by cases hc⟩
theorem AddR.cast {w : World} {B b q m : Nat} {zn : Bool} {V V' X X' : Int} (h : AddR w B b q m zn V X) (hV : V = V') (hX : X = X') : AddR w B b q m zn V' X' := by rw [← hV, ← hX]; exact h
theorem FltR.at {w : World} {b p m f : Nat} {a : Int} {neg : Bool} {v : Value} {e : Int} (h : FltR w b p m a f neg v e) (i : Nat) (u : Value) {B1 g p1 m1 f1 M : Nat} {n1 : Bool} {E : Int} (hne : b ≠ g) (hx : FloatAt w B1 g p1 m1 f1 n1 M E) : FloatAt (w.setCell ⟨b, i, none⟩ u) B1 g p1 m1 f1 n1 M E := by
  obtain ⟨h1, r, x, h2, h3⟩ := hx
  refine ⟨h1, r, x, (heap_setCell_other _ _ _ _ (by simpa using hne.symm)).trans h2, fun hf => ?_⟩
  obtain ⟨h4, h5⟩ := h3 hf
  exact ⟨h4, h.own h5 i u⟩
theorem FloatAt.row {w : World} {B g p m f M : Nat} {n : Bool} {E : Int} (h : FloatAt w B g p m f n M E) : ∃ r x, FltR w g p m 0 f n r x := by
  obtain ⟨-, r, x, h, -⟩ := h; exact ⟨r, x, h⟩
theorem FloatAt.drewN {w : World} {B g p m f M : Nat} {n : Bool} {E : Int} (h : FloatAt w B g p m f n M E) (k : Nat) : FloatAt (w.drewN k) B g p m f n M E := h.below (undrewN' (Below.refl _ _))
/-- What is told of a rounded sum V times 2 to X; zn is the sign of zero. -/
def AddZ (w : World) (z : Value) (A : Int) (q m : Nat) (zn : Bool) (V X : Int) : Prop :=
  A = rA q m (vN V) 0 V.natAbs ∧ RealV w z q m (fO V.natAbs) (if V = 0 then zn else vN V) (rQ q m (vN V) 0 V.natAbs) (X + rk q V.natAbs)
theorem AddZ.below {w w' : World} {z : Value} {A : Int} {q m : Nat} {zn : Bool} {V X : Int} (h : AddZ w z A q m zn V X) (hb : Below w.heap.size w w') : AddZ w' z A q m zn V X := ⟨h.1, h.2.below hb⟩
theorem AddZ.told {w : World} {z : Value} {A : Int} {q m M : Nat} {zn ng : Bool} {V X : Int} (h : AddZ w z A q m zn V X) (hV : sI ng M = V) (hq : 0 < q) : Told w z q m ng (rQ q m ng 0 M) (X + (rk q M : Nat)) ∧ A = rA q m ng 0 M := by
  obtain ⟨h1, h2⟩ := h
  subst hV
  rcases Nat.eq_zero_or_pos M with h0 | h0
  · subst h0
    obtain ⟨k1, k2, k3⟩ := rQ_zero q m ng
    rw [sI_zero] at h1 h2
    rw [k2, k3]
    refine ⟨?_, by rw [h1]; exact (rQ_zero q m _).2.2⟩
    exact h2.told0
  · rw [natAbs_sI, vN_sI h0] at h1 h2
    rw [fO, if_neg (Nat.ne_of_gt h0), if_neg (sI_ne h0)] at h2
    exact ⟨h2.told (rQ_pos ng 0 hq h0) (deq.refl _ _), h1⟩
theorem ksT2 {W X : World} {i j : Nat} {a b c d e f a' b' c' d' e' f' : Value} {T T' : TypeId} (hr : W.heap[i]? = some (.cells #[a, b, c, d, e, f] T (0, 0))) (hq : W.heap[j]? = some (.cells #[a', b', c', d', e', f'] T' (0, 0))) (h : Below W.heap.size W X) :
    (X.cell? ⟨i, 0, none⟩ = some a ∧ X.cell? ⟨i, 1, none⟩ = some b ∧ X.cell? ⟨i, 2, none⟩ = some c ∧ X.cell? ⟨i, 3, none⟩ = some d ∧ X.cell? ⟨i, 4, none⟩ = some e ∧ X.cell? ⟨i, 5, none⟩ = some f) ∧
    (X.cell? ⟨j, 0, none⟩ = some a' ∧ X.cell? ⟨j, 1, none⟩ = some b' ∧ X.cell? ⟨j, 2, none⟩ = some c' ∧ X.cell? ⟨j, 3, none⟩ = some d' ∧ X.cell? ⟨j, 4, none⟩ = some e' ∧ X.cell? ⟨j, 5, none⟩ = some f') :=
  ⟨(ks12 hr h).2, (ks12 hq h).2⟩
theorem AddZ.form {w : World} {z : Value} {A : Int} {q m : Nat} {zn : Bool} {V X : Int} (h : AddZ w z A q m zn V X) : ∃ (f : Nat) (sg : Bool) (v : Value) (E : Int), z = .agg #[.int .u64 q, .int .i64 m, .int .i64 f, .bool sg, v, .int .i64 E] ∧ IsS v := by
  obtain ⟨v, E, h1, h2⟩ := h.2.form
  exact ⟨_, _, v, E, h1, h2⟩
end Go.Proofs.YtgbmlaffilccnaaGreatDoor

/-
Floats: setBits64, SetInt64, SetUint64 of a new receiver of any precision, by values. No condition.
-/
namespace Go.Proofs.YtgbmlaffilccnaaGreatDoor
open Go.RowKit

/-- The precision that is taken where none is asked. -/
def pD (p d : Nat) : Nat := if p = 0 then d else p
theorem pD_pos {p d : Nat} (h : 0 < d) : 0 < pD p d := by unfold pD; split <;> omega
theorem pD_le {p d q : Nat} (h1 : p ≤ q) (h2 : d ≤ q) : pD p d ≤ q := by unfold pD; split <;> omega
/-- A word with its first bit at the top. -/
theorem good_word {y p : Nat} (h1 : y < 18446744073709551616) (h2 : 9223372036854775808 ≤ y) (hp : 64 ≤ p) : Good [y] p :=
  ⟨Nat.one_pos, by simp, fun d hd => by rw [List.mem_singleton] at hd; rw [hd]; exact h1, by simpa [wv] using h2, .inl (by simpa using hp)⟩
theorem wv_one (y : Nat) : wv [y] = y := by simp [wv]
/-- What becomes of a Float that holds a value, exactly, and is rounded where its precision is less than that of the words. -/
theorem fval_trans {w : World} {B b q m : Nat} {neg : Bool} {N M : Nat} {X Y : Int} (h : FVal w B b q m (rA q m neg 0 N) 1 neg (rQ q m neg 0 N) (X + rk q N)) (hN : 0 < N) (hd : deq N X M Y) :
    FVal w B b q m (rA q m neg 0 M) 1 neg (rQ q m neg 0 M) (Y + rk q M) := by
  obtain ⟨l1, l2⟩ := rnd_deq (p := q) (m := m) neg hN hd
  obtain ⟨v', e', k1, k2⟩ := h
  obtain ⟨n1, ws', n2, n3, n4⟩ := k2 rfl
  refine ⟨v', e', by rw [← l2]; exact k1, fun _ => ⟨l1.pos n1, ws', n2, n3, n4.trans l1⟩⟩
def sbA (q m : Nat) (neg : Bool) (M : Nat) : Int := if M = 0 then 0 else rA q m neg 0 M
end Go.Proofs.YtgbmlaffilccnaaGreatDoor

/-
fnorm with its answer. No condition.
-/
namespace Go.Proofs.YtgbmlaffilccnaaGreatDoor
open Go.RowKit

set_option maxRecDepth 100000 in
set_option maxHeartbeats 800000 in
theorem fnorm_val (v : Value) (M B : Nat) (w : World) (ho : Own w B 116 v (cellsW (wds M))) (h0 : 0 < M) (hl : nw M ≤ 1000000000) :
    Calls Tryz.prog 68 #[v] w fun e w' => e = .returned (.int .i64 ((64 * nw M - bl M : Nat) : Int)) ∧ Own w' B 116 v (cellsW (topN M)) ∧ Below B w w' ∧ Only (sBlk v) w w' := by
  have hS := ho.isS
  have hL : sLen v = nw M := by rw [ho.len, cellsW_length, wds_length]
  have hp := nw_pos h0
  have e := bl_words h0
  have hc := (ho.rw' (wds_all M)).cell (nw M - 1) (by rw [wds_length]; omega)
  rw [wds_getD] at hc
  have ht := wdg_lt M (nw M - 1)
  have htp : 0 < wdg M (nw M - 1) := Nat.pos_of_ne_zero (wdg_last h0)
  have HTN : Hid (topN M = wdsN (M * 2 ^ (64 * nw M - bl M)) (nw M)) := Lib.hid rfl
  obtain ⟨j, hj⟩ : ∃ j, nw M = j + 1 := ⟨nw M - 1, by omega⟩
  obtain ⟨t, htt⟩ : ∃ t, t = wdg M (nw M - 1) := ⟨_, rfl⟩
  rw [← htt] at e hc ht htp
  have hbt := bl_le64 ht
  have hbp := bl_pos htp
  have es : 64 * nw M - bl M = 64 - bl t := by rw [e]; omega
  rw [es] at HTN ⊢
  obtain ⟨s, hs⟩ : ∃ s, s = 64 - bl t := ⟨_, rfl⟩
  rw [← hs] at HTN ⊢
  have hs64 : s < 64 := by omega
  rw [hj, Nat.add_sub_cancel] at hc
  rw [hj] at hL hl
  have HO := Lib.hid ho
  have HJ := Lib.hid hj
  have HS := Lib.hid hs
  have HT := Lib.hid ht
  clear ho h0 hp e htp hbt hbp es hs hj ht htt
  rcases Nat.eq_zero_or_pos s with hs0 | hs0
  · subst hs0
    go_enter Tryz.func68, Tryz.ntmps68
    go_wp2_with fail
    refine (nlz_any t w HT.out).mono ?_
    rintro _ _ ⟨rfl, rfl⟩
    rw [← HS.out]
    go_wp2
    go_ret
    refine ⟨rfl, ?_, Below.refl _ _, Only.refl _ _⟩
    rw [HTN.out, Nat.pow_zero, Nat.mul_one, wdsN_nw]
    exact HO.out
  · have t1 : decide (0 < s) = true := decide_eq_true hs0
    go_enter Tryz.func68, Tryz.ntmps68
    go_wp2_with fail
    refine (nlz_any t w HT.out).mono ?_
    rintro _ _ ⟨rfl, rfl⟩
    rw [← HS.out]
    go_wp2_with fail
    refine (lshVU_any v (wds M) M s B w HO.out (wds_all M) (wv_wds M) (by rw [wds_length, HJ.out]; omega) (by rw [wds_length, HJ.out]; exact hl) hs0 hs64).mono ?_
    rintro _ w1 ⟨rfl, h1, h2, h3⟩
    rw [wds_length, ← HTN.out] at h1
    have H1 := Lib.hid h1
    clear h1
    go_wp2
    go_ret
    exact ⟨rfl, H1.out, h2, h3⟩
end Go.Proofs.YtgbmlaffilccnaaGreatDoor
