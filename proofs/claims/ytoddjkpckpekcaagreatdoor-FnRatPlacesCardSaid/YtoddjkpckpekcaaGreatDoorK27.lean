/-
Texts of this proof, joined: SpF RnA FcA HoistP InD BiA RnB. No condition.
-/
import Derived.Test.YtoddjkpckpekcaaGreatDoorK01
import Derived.Test.YtoddjkpckpekcaaGreatDoorK02
import Derived.Test.YtoddjkpckpekcaaGreatDoorK03
import Derived.Test.YtoddjkpckpekcaaGreatDoorK04
import Derived.Test.YtoddjkpckpekcaaGreatDoorK05
import Derived.Test.YtoddjkpckpekcaaGreatDoorK06
import Derived.Test.YtoddjkpckpekcaaGreatDoorK07
import Derived.Test.YtoddjkpckpekcaaGreatDoorK08
import Derived.Test.YtoddjkpckpekcaaGreatDoorK09
import Derived.Test.YtoddjkpckpekcaaGreatDoorK10
import Derived.Test.YtoddjkpckpekcaaGreatDoorK11
import Derived.Test.YtoddjkpckpekcaaGreatDoorK12
import Derived.Test.YtoddjkpckpekcaaGreatDoorK13
import Derived.Test.YtoddjkpckpekcaaGreatDoorK14
import Derived.Test.YtoddjkpckpekcaaGreatDoorK15
import Derived.Test.YtoddjkpckpekcaaGreatDoorK16
import Derived.Test.YtoddjkpckpekcaaGreatDoorK17
import Derived.Test.YtoddjkpckpekcaaGreatDoorK18
import Derived.Test.YtoddjkpckpekcaaGreatDoorK19
import Derived.Test.YtoddjkpckpekcaaGreatDoorK20
import Derived.Test.YtoddjkpckpekcaaGreatDoorK21
import Derived.Test.YtoddjkpckpekcaaGreatDoorK22
import Derived.Test.YtoddjkpckpekcaaGreatDoorK23
import Derived.Test.YtoddjkpckpekcaaGreatDoorK24
import Derived.Test.YtoddjkpckpekcaaGreatDoorK25
import Derived.Test.YtoddjkpckpekcaaGreatDoorK26
import Derived.Test.YtoddjkpckpekcaaGreatDoorProg
import Derived.WalkKit
import Derived.WalkSpells
import Derived.WalkLawsBesides
import Derived.Lib.Hide
import Derived.Deep.QuietTactic
import Derived.BigQuiet
import Derived.Deep.DeepFit
import Derived.Deep.AppendSrc
import Derived.Laws.FloatArith
import Derived.Laws.BitsAllLaws
import Derived.Laws.Bits64b
import Derived.Laws.CopyOwn
import Derived.Outline
import Derived.Deep.RegionHeld3
import Derived.Deep.DeepCutAuto
import Derived.Deep.CutRange
import Derived.Lib.Builder
import Derived.Shelf.Small.Bits
import Derived.Shelf.Strconv.Itoa0
import Derived.Shelf.Bits.Mul64
import Derived.Lib.BitFns
import Derived.Laws.Externs
namespace Go.Proofs.YtoddjkpckpekcaaGreatDoor
open Go.RowKit

theorem cmpN_ge (x y : Nat) : 0 ≤ cmpN x y ↔ y ≤ x := by unfold cmpN; split; omega; split <;> omega
theorem deq.shl (M : Nat) (E : Int) (t : Nat) : deq (M * 2 ^ t) E M (E + t) := ⟨0, t, by simp, by omega⟩
/-! ### Odd parts -/
/-! ### Rounding -/
theorem rQ_fits {p m M : Nat} (neg : Bool) (h : bl M ≤ p) : rk p M = 0 ∧ rQ p m neg 0 M = M ∧ rA p m neg 0 M = 0 := by
  have h0 : rk p M = 0 := by unfold rk; omega
  have h1 : rL p 0 M = 0 := by unfold rL; rw [h0, Nat.pow_zero, Nat.mod_one]; exact lef_exact _
  refine ⟨h0, ?_, ?_⟩
  · unfold rQ rU; rw [h1, awy_zero, h0]; simp
  · unfold rA; rw [if_pos h1]
theorem rnd_shl {p m M : Nat} (neg : Bool) (hM : 0 < M) (t : Nat) (E : Int) :
    deq (rQ p m neg 0 (M * 2 ^ t)) (E + rk p (M * 2 ^ t)) (rQ p m neg 0 M) (E + t + rk p M) ∧ rA p m neg 0 (M * 2 ^ t) = rA p m neg 0 M := by
  have hb := bl_mul hM t
  rcases Nat.lt_or_ge p (bl M) with hp | hp
  · have k1 : rk p (M * 2 ^ t) = rk p M + t := by unfold rk; omega
    have hP := Nat.two_pow_pos t
    have d1 : M * 2 ^ t / 2 ^ rk p (M * 2 ^ t) = M / 2 ^ rk p M := by rw [k1, Nat.pow_add]; exact Nat.mul_div_mul_right _ _ hP
    have l1 : rL p 0 (M * 2 ^ t) = rL p 0 M := by
      unfold rL
      rw [k1, Nat.pow_add, Nat.mul_mod_mul_right, lef_scale _ _ _ hP]
    have u1 : rU p m neg 0 (M * 2 ^ t) = rU p m neg 0 M := by unfold rU; rw [d1, l1]
    have q1 : rQ p m neg 0 (M * 2 ^ t) = rQ p m neg 0 M := by unfold rQ; rw [d1, u1]
    refine ⟨?_, by unfold rA; rw [l1, u1]⟩
    rw [q1, k1]
    exact ⟨0, 0, rfl, by omega⟩
  · obtain ⟨k0, q0, a0⟩ := rQ_fits (m := m) neg hp
    rw [k0, q0, a0]
    obtain ⟨c, hc⟩ : ∃ c, rk p (M * 2 ^ t) = c := ⟨_, rfl⟩
    have hct : c ≤ t := by unfold rk at hc; omega
    have hm : M * 2 ^ t % 2 ^ c = 0 := by
      rw [show t = (t - c) + c by omega, Nat.pow_add, ← Nat.mul_assoc]; exact Nat.mul_mod_left _ _
    have l1 : rL p 0 (M * 2 ^ t) = 0 := by unfold rL; rw [hc, hm]; exact lef_exact _
    have q1 : rQ p m neg 0 (M * 2 ^ t) = M * 2 ^ (t - c) := by
      unfold rQ rU
      rw [l1, awy_zero, hc, show t = (t - c) + c by omega, Nat.pow_add, ← Nat.mul_assoc, Nat.mul_div_cancel _ (Nat.two_pow_pos c)]
      simp
    refine ⟨?_, by unfold rA; rw [if_pos l1]⟩
    rw [q1, hc]
    exact ⟨0, t - c, by simp, by omega⟩
theorem rnd_deq {p m M N : Nat} {E F : Int} (neg : Bool) (hM : 0 < M) (h : deq M E N F) :
    deq (rQ p m neg 0 M) (E + rk p M) (rQ p m neg 0 N) (F + rk p N) ∧ rA p m neg 0 M = rA p m neg 0 N := by
  have hN := h.pos hM
  obtain ⟨i, j, h1, h2⟩ := h
  obtain ⟨a1, a2⟩ := rnd_shl (p := p) (m := m) neg hM i (E - i)
  obtain ⟨b1, b2⟩ := rnd_shl (p := p) (m := m) neg hN j (F - j)
  rw [h1] at a1 a2
  rw [h2] at a1
  have := a1.symm.trans b1
  exact ⟨by simpa [show F - (j : Int) + (i : Int) = E by omega] using this, a2.symm.trans b2⟩
/-! ### The bits of a pattern -/
theorem and_frac {b : Nat} (hb : b < 18446744073709551616) : bits .and .u64 (b : Int) 4503599627370495 = ((b % 4503599627370496 : Nat) : Int) := by
  rw [show (4503599627370495 : Int) = ((4503599627370495 : Nat) : Int) from rfl, bits_and_u64_nat b _ hb (by decide), show (4503599627370495 : Nat) = 2 ^ 52 - 1 from rfl, Nat.and_two_pow_sub_one_eq_mod]
theorem and_2047 {x : Nat} (hx : x < 18446744073709551616) : bits .and .u64 (x : Int) 2047 = ((x % 2048 : Nat) : Int) := by
  rw [show (2047 : Int) = ((2047 : Nat) : Int) from rfl, bits_and_u64_nat x _ hx (by decide), show (2047 : Nat) = 2 ^ 11 - 1 from rfl, Nat.and_two_pow_sub_one_eq_mod]
end Go.Proofs.YtoddjkpckpekcaaGreatDoor
namespace Go.Proofs.YtoddjkpckpekcaaGreatDoor
section
variable {P : Program} {ops : Array Oper} {C : World → Prop} {Q : Exit → Act → World → Prop} {md : Region.Mode} {hd : Nat → Bool}

def pickOps (ops : Array Oper) (is : List Nat) : List Oper := is.flatMap fun i => (ops[i]?).toList
theorem pickOps_cons {i : Nat} {is : List Nat} {o : Oper} (h : ops[i]? = some o) : pickOps ops (i :: is) = o :: pickOps ops is := by simp [pickOps, h]

def tailBP (md : Region.Mode) (ops : Array Oper) : List Nat → Array Bool → Bool
  | [], listed => (Region.ready md ops listed).isEmpty
  | k :: l, listed =>
    (ops[k]?).isSome && ((Region.ready md ops listed == [k]) || (((ops[k]?).map plainOp).getD false && (Region.ready md ops listed).contains k && Region.free md ops listed k)) &&
      tailBP md ops l (listed.setIfInBounds k true)

theorem wpAny_tailP (hsel : Region.noSelect ops = true) (hQ : Calm Q) : ∀ (l : List Nat) (listed : Array Bool) (a : Act) (w : World),
    tailBP md ops l listed = true → wpList P ops Q (pickOps ops l) a w → wpAny P md ops Q l.length listed a w
  | [], listed, a, w, hB, h => ⟨by simpa [tailBP] using hB, h⟩
  | k :: l, listed, a, w, hB, h => by
    simp only [tailBP, Bool.and_eq_true, Bool.or_eq_true] at hB
    obtain ⟨⟨hs, hB1⟩, hB'⟩ := hB
    obtain ⟨o, h0⟩ := Option.isSome_iff_exists.1 hs
    rw [pickOps_cons h0] at h
    rcases hB1 with hr | ⟨⟨hp, hc⟩, hf⟩
    · have hr' : Region.ready md ops listed = [k] := by simpa using hr
      refine wpAny_all hr' (by simp) fun i hi => ?_
      have : i = k := by simpa using hi
      subst this
      unfold wpOp
      simp only [h0]
      unfold wpList at h
      split
      · rename_i hw
        rw [if_pos hw] at h
        exact h.imp (Oper.wp_mono fun a' w' h' => wpAny_tailP hsel hQ l _ a' w' hB' h') id
      · rename_i hw
        rw [if_neg hw] at h
        exact wpAny_tailP hsel hQ l _ _ w hB' h
    · have hpl : plainOp o = true := by simpa [h0] using hp
      unfold wpList at h
      by_cases hw : Region.wanted o (yielded ops a.tmps) = true
      · rw [if_pos hw] at h
        rcases h with h | ⟨_, a', w', h⟩
        · rcases plainOp_run (P := P) hpl a.eval w with ⟨v, hv⟩ | ⟨s, hs⟩
          · unfold Oper.wp at h
            rw [hv w] at h
            exact wpAny_first h0 (Region.noSelect_spec hsel) (fun c a w h => (hQ.1 c _ w h).elim) l.length listed a w (Region.free_spec h0 hf) (by simpa using hc) (.inl ⟨hw, hv⟩)
              (wpAny_tailP hsel hQ l _ _ w hB' h)
          · unfold Oper.wp at h
            rw [hs] at h
            exact h.elim
        · exact (hQ.2 _ _ h).elim
      · rw [if_neg hw] at h
        exact wpAny_first h0 (Region.noSelect_spec hsel) (fun c a w h => (hQ.1 c _ w h).elim) l.length listed a w (Region.free_spec h0 hf) (by simpa using hc) (.inr ⟨by simpa using hw, rfl⟩)
          (wpAny_tailP hsel hQ l _ _ w hB' h)

def flatOp (o : Oper) : Bool :=
  match o.op with
  | .move _ | .assign _ | .extract _ _ | .nilCheck _ | .fieldAddr _ _ _ => true
  | _ => false
theorem value_of_then {α : Type} {s : Result α} {f : α → Value} {n : Next} {w' : World} (h : (s.andThen fun x w => Result.ok (Next.value (f x)) w) = .ok n w') : ∃ u, n = .value u := by
  cases s with
  | ok x w1 => simp [Result.andThen] at h; exact ⟨_, h.1.symm⟩
  | halt c w1 => simp [Result.andThen] at h
theorem flatOp_value {o : Oper} (h : flatOp o = true) (ρ : Operand → Value) (w w' : World) (n : Next) (hr : (execOp ρ o).run P w = .ok n w') : ∃ u, n = .value u := by
  obtain ⟨dst, op, type, pos, after, guard⟩ := o
  unfold flatOp at h
  split at h
  · rename_i x heq; simp only at heq; subst heq; cases hr; exact ⟨_, rfl⟩
  · rename_i x heq; simp only at heq; subst heq; cases hr; exact ⟨_, rfl⟩
  · rename_i x i heq; simp only at heq; subst heq
    simp only [execOp, Sem.run_bind, Sem.run_pure] at hr
    exact value_of_then (f := id) hr
  · rename_i x heq; simp only at heq; subst heq
    simp only [execOp] at hr
    split at hr
    · cases hr
    · cases hr
    · cases hr
    · split at hr
      · cases hr
      · simp only [Sem.run_bind] at hr
        cases hb : Sem.run P program w with
        | halt c w1 => rw [hb] at hr; cases hr
        | ok p w1 =>
          rw [hb] at hr
          simp only [Result.andThen_ok] at hr
          generalize Sem.run P (nilAhead _ _ _ _) w1 = R at hr
          cases R with
          | halt c w2 => cases hr
          | ok b w2 =>
            simp only [Result.andThen_ok] at hr
            split at hr
            · cases hr
            · cases hr; exact ⟨_, rfl⟩
      · cases hr; exact ⟨_, rfl⟩
    · cases hr; exact ⟨_, rfl⟩
  · rename_i x y z heq; simp only at heq; subst heq
    simp only [execOp, Sem.run_bind, Sem.run_pure] at hr
    exact value_of_then (f := id) hr
  · cases h

theorem yields_of_flat {o : Oper} {v : Value} {a : Act} (hf : flatOp o = true) (hy : YieldsIn P ops (fun _ => True) o v a) : Yields P ops o v a := by
  rcases hy with ⟨hw, hv⟩ | ⟨hw, hv⟩
  · refine .inl ⟨hw, fun w => ?_⟩
    have h1 := hv w trivial
    unfold Oper.quietAt at h1
    cases hr : (execOp a.eval o).run P w with
    | halt c w' => rw [hr] at h1; exact h1.elim
    | ok n w' =>
      obtain ⟨u, rfl⟩ := flatOp_value hf _ _ _ _ hr
      rw [hr] at h1
      obtain ⟨h2, h3⟩ := h1
      rw [h2, h3]
  · exact .inr ⟨hw, hv⟩
def tailGP (md : Region.Mode) (ops : Array Oper) (ts : List Nat) : List Nat → Array Bool → Bool
  | [], listed => tailBP md ops ts listed
  | k :: l, listed => (ops[k]?).isSome && (Region.ready md ops listed).contains k && Region.free md ops listed k && ((ops[k]?).map flatOp).getD false && tailGP md ops ts l (listed.setIfInBounds k true)
theorem wpAny_tailG (hsel : Region.noSelect ops = true) (hQ : Calm Q) (ts : List Nat) {w : World} : ∀ (l : List Nat) (listed : Array Bool) (a : Act), tailGP md ops ts l listed = true →
    wpQuiet P ops (fun _ => True) (fun a' => wpList P ops Q (pickOps ops ts) a' w) (pickOps ops l) a → wpAny P md ops Q (l.length + ts.length) listed a w
  | [], listed, a, hB, h => by
    simp only [List.length_nil, Nat.zero_add]
    exact wpAny_tailP hsel hQ ts listed a w hB h
  | k :: l, listed, a, hB, h => by
    simp only [tailGP, Bool.and_eq_true] at hB
    obtain ⟨⟨⟨⟨hs1, hr⟩, hf⟩, hfl⟩, hB'⟩ := hB
    obtain ⟨o, h0⟩ := Option.isSome_iff_exists.1 hs1
    rw [pickOps_cons h0] at h
    have hst : qOp P ops (fun _ => True) k (wpQuiet P ops (fun _ => True) (fun a' => wpList P ops Q (pickOps ops ts) a' w) (pickOps ops l)) a := by unfold qOp; simp only [h0]; exact h
    obtain ⟨v, hy, hK⟩ := yieldsIn_of_qOp h0 hst
    have hfl' : flatOp o = true := by simpa [h0] using hfl
    rw [List.length_cons, Nat.add_right_comm]
    exact wpAny_first h0 (Region.noSelect_spec hsel) (fun c a w h => (hQ.1 c _ w h).elim) _ listed a w (Region.free_spec h0 hf) (by simpa using hr) (yields_of_flat hfl' hy)
      (wpAny_tailG hsel hQ ts l _ _ hB' hK)

def wpAnyMP (P : Program) (md : Region.Mode) (ops : Array Oper) (C : World → Prop) (hd : Nat → Bool) (Q : Exit → Act → World → Prop) : Nat → Array Bool → Act → Prop
  | 0, listed, a => Region.ready md ops listed = [] ∧ ∀ w, C w → Q .normal a w
  | fuel + 1, listed, a =>
    (Region.ready md ops listed = [] → ∀ w, C w → Q .normal a w) ∧
    ∀ i ∈ Region.ready md ops listed,
      (hd i = true → qOp P ops C i (wpAnyMP P md ops C hd Q fuel (listed.setIfInBounds i true)) a) ∧
      (hd i = false → ∀ w, C w → wpOp P ops Q i (wpAny P md ops Q fuel (listed.setIfInBounds i true)) a w)

theorem wpAny_of_MP : ∀ (fuel : Nat) (listed : Array Bool) (a : Act) (w : World), C w → wpAnyMP P md ops C hd Q fuel listed a → wpAny P md ops Q fuel listed a w
  | 0, _, _, w, hw, h => ⟨h.1, h.2 w hw⟩
  | fuel + 1, _, _, w, hw, h => ⟨fun h0 => h.1 h0 w hw, fun i hi => by
      cases hin : hd i with
      | true => exact wpOp_of_qOp hw (fun a' w' hw' => wpAny_of_MP fuel _ a' w' hw') ((h.2 i hi).1 hin)
      | false => exact (h.2 i hi).2 hin w hw⟩

def waitsBP (md : Region.Mode) (ops : Array Oper) (hd : Nat → Bool) (k : Nat) (listed : Array Bool) (D : Nat → Bool) : Bool :=
  D k && (List.range ops.size).all fun j => (hd j || D j) && (!D j || (!listed.getD j true && (j == k || ((ops[j]?).map (·.after.any fun e => Region.binds md e && D e.on && decide (e.on < ops.size))).getD false)))
structure WaitsP (md : Region.Mode) (ops : Array Oper) (hd : Nat → Bool) (k : Nat) (D : Nat → Bool) : Prop where
  late : ∀ j, j < ops.size → hd j = false → D j = true
  back : ∀ j oj, ops[j]? = some oj → D j = true → j ≠ k → ∃ e ∈ oj.after, Region.binds md e = true ∧ D e.on = true ∧ e.on < ops.size

theorem wpAnyMP_first {k : Nat} {ok : Oper} {v : Value} {D : Nat → Bool} (hk : ops[k]? = some ok) (hkn : hd k = true) (hsel : ∀ (j : Nat) (o : Oper) cs b, ops[j]? = some o → o.op ≠ .select cs b) (hD : WaitsP md ops hd k D) :
    ∀ (fuel : Nat) (listed : Array Bool) (a : Act),
      (∀ j oj, ops[j]? = some oj → j ≠ k → listed.getD j true = false → (∀ e ∈ oj.after, Region.binds md e = true → e.on ≠ k) → ok.apart ops oj = true) →
      (∀ j, j < ops.size → D j = true → listed.getD j true = false) →
      k ∈ Region.ready md ops listed → YieldsIn P ops C ok v a →
      wpAnyMP P md ops C hd Q fuel (listed.setIfInBounds k true) (a.put ok.dst v) → wpAnyMP P md ops C hd Q (fuel + 1) listed a := by
  intro fuel
  induction fuel with
  | zero =>
    intro listed a _ _ hr hy H
    refine ⟨fun h => (by rw [h] at hr; cases hr), fun j hj => ?_⟩
    by_cases hjk : j = k
    · subst hjk; exact ⟨fun _ => hy.qOp hk H, fun h => by rw [hkn] at h; cases h⟩
    · have := ready_mono hj hjk
      rw [H.1] at this
      cases this
  | succ fuel ih =>
    intro listed a hfree hun hr hy H
    refine ⟨fun h => (by rw [h] at hr; cases hr), fun j hj => ?_⟩
    by_cases hjk : j = k
    · subst hjk; exact ⟨fun _ => hy.qOp hk H, fun h => by rw [hkn] at h; cases h⟩
    · obtain ⟨hjun, oj, hoj, hall⟩ := mem_ready.1 hj
      have hjs : j < ops.size := (Array.getElem?_eq_some_iff.1 hoj).1
      have hjD : D j ≠ true := fun hd => by
        obtain ⟨e, he, hb, hde, hes⟩ := hD.back j oj hoj hd hjk
        have h1 := hall e he hb
        have h0 := hun e.on hes hde
        rcases Nat.lt_or_ge e.on listed.size with h' | h'
        · simp [h'] at h0 h1; rw [h0] at h1; cases h1
        · simp [Array.getElem?_eq_none h'] at h1
      have hjn : hd j = true := by
        cases h : hd j with
        | true => rfl
        | false => exact absurd (hD.late j hjs h) hjD
      refine ⟨fun _ => ?_, fun h => by rw [hjn] at h; cases h⟩
      have h1 := (H.2 j (ready_mono hj hjk)).1 hjn
      have hnot : ∀ e ∈ oj.after, Region.binds md e = true → e.on ≠ k := fun e he hb heq => by
        have h1 := hall e he hb
        have h0 := (mem_ready.1 hr).1
        rw [heq] at h1
        rcases Nat.lt_or_ge k listed.size with h' | h'
        · simp [h'] at h0 h1; rw [h0] at h1; cases h1
        · simp [Array.getElem?_eq_none h'] at h1
      have h2 := qOp_put hoj (hfree j oj hoj hjk hjun hnot) (fun cs b => hsel k ok cs b hk) (fun cs b => hsel j oj cs b hoj) hy h1
      refine qOp_mono (fun a' h3 => ih (listed.setIfInBounds j true) a' ?_ ?_ (ready_mono hr (Ne.symm hjk)) h3.1 ?_) h2
      · intro i oi hi hik hiun hno
        refine hfree i oi hi hik ?_ hno
        by_cases hji : j = i
        · subst hji; exact hjun
        · rw [getD_set_ne true hji] at hiun; exact hiun
      · intro i his hd
        have : j ≠ i := fun e => hjD (e ▸ hd)
        rw [getD_set_ne true this]; exact hun i his hd
      · rw [Array.setIfInBounds_comm _ _ hjk]
        exact h3.2

def headBP (md : Region.Mode) (ops : Array Oper) (hd : Nat → Bool) (gs ts : List Nat) : List Nat → Array Bool → Bool
  | [], listed => ((List.range ops.size).all fun i => !hd i || listed.getD i false) && tailGP md ops ts gs listed
  | k :: l, listed =>
    (ops[k]?).isSome && hd k && (Region.ready md ops listed).contains k && Region.free md ops listed k && waitsBP md ops hd k listed (fun j => (desc md ops k).getD j false) && headBP md ops hd gs ts l (listed.setIfInBounds k true)

theorem wpAnyMP_head (hsel : Region.noSelect ops = true) (hQ : Calm Q) {w0 : World} (hw0 : C w0) (gs ts : List Nat) : ∀ (l : List Nat) (listed : Array Bool) (a : Act),
    headBP md ops hd gs ts l listed = true → wpQuiet P ops C (fun a' => ∀ w, C w → wpQuiet P ops (fun _ => True) (fun a3 => wpList P ops Q (pickOps ops ts) a3 w) (pickOps ops gs) a') (pickOps ops l) a → wpAnyMP P md ops C hd Q (l.length + (gs.length + ts.length)) listed a
  | [], listed, a, hB, h => by
    simp only [headBP, Bool.and_eq_true, List.all_eq_true, List.mem_range, Bool.or_eq_true, Bool.not_eq_true'] at hB
    obtain ⟨hli, ht⟩ := hB
    have key : ∀ w, C w → wpAny P md ops Q (gs.length + ts.length) listed a w := fun w hw => wpAny_tailG hsel hQ ts gs listed a ht (h w hw)
    simp only [List.length_nil, Nat.zero_add]
    cases hf : gs.length + ts.length with
    | zero => rw [hf] at key; exact ⟨(key w0 hw0).1, fun w hw => (key w hw).2⟩
    | succ f =>
      rw [hf] at key
      refine ⟨fun h0 w hw => (key w hw).1 h0, fun i hi => ⟨fun hik => ?_, fun _ w hw => (key w hw).2 i hi⟩⟩
      exfalso
      obtain ⟨hr, oj, hoj, _⟩ := mem_ready.1 hi
      have hs : i < ops.size := (Array.getElem?_eq_some_iff.1 hoj).1
      have h1 := (hli i hs).resolve_left (by rw [hik]; simp)
      rcases Nat.lt_or_ge i listed.size with h' | h'
      · simp [h'] at hr h1; rw [hr] at h1; cases h1
      · simp [Array.getElem?_eq_none h'] at h1
  | k :: l, listed, a, hB, h => by
    simp only [headBP, Bool.and_eq_true] at hB
    obtain ⟨⟨⟨⟨⟨hs, hkn⟩, hr⟩, hf⟩, hw⟩, hB'⟩ := hB
    obtain ⟨o, h0⟩ := Option.isSome_iff_exists.1 hs
    rw [pickOps_cons h0] at h
    have hst : qOp P ops C k (wpQuiet P ops C (fun a' => ∀ w, C w → wpQuiet P ops (fun _ => True) (fun a3 => wpList P ops Q (pickOps ops ts) a3 w) (pickOps ops gs) a') (pickOps ops l)) a := by unfold qOp; simp only [h0]; exact h
    obtain ⟨v, hy, hK⟩ := yieldsIn_of_qOp h0 hst
    have IH := wpAnyMP_head hsel hQ hw0 gs ts l (listed.setIfInBounds k true) (a.put o.dst v) hB' hK
    rw [List.length_cons, Nat.add_right_comm]
    simp only [waitsBP, Bool.and_eq_true, List.all_eq_true, List.mem_range] at hw
    obtain ⟨hDk, hall⟩ := hw
    refine wpAnyMP_first (D := fun j => (desc md ops k).getD j false) h0 hkn (Region.noSelect_spec hsel) ⟨fun j hj hnj => ?_, fun j oj hj hd hjk => ?_⟩ _ listed a (Region.free_spec h0 hf) (fun j hj hd => ?_) (by simpa using hr) hy IH
    · have := (hall j hj).1
      simp only [Bool.or_eq_true] at this
      exact this.resolve_left (by rw [hnj]; simp)
    · have h1 := (hall j (Array.getElem?_eq_some_iff.1 hj).1).2
      simp only [Bool.or_eq_true, Bool.not_eq_true', Bool.and_eq_true, beq_iff_eq, hj, Option.map_some, Option.getD_some] at h1
      rcases h1 with h1 | ⟨_, h1⟩
      · rw [h1] at hd; cases hd
      · obtain ⟨e, he, hb⟩ := Array.any_eq_true'.1 (h1.resolve_left hjk)
        simp only [Bool.and_eq_true, decide_eq_true_eq] at hb
        exact ⟨e, he, hb.1.1, hb.1.2, hb.2⟩
    · have h1 := (hall j hj).2
      simp only [Bool.or_eq_true, Bool.not_eq_true', Bool.and_eq_true] at h1
      rcases h1 with h1 | ⟨h1, _⟩
      · rw [h1] at hd; cases hd
      · exact h1

def flatBP (md : Region.Mode) (ops : Array Oper) (hd : Nat → Bool) (hs gs ts : List Nat) : List Nat → Array Bool → Bool
  | [], listed => headBP md ops hd gs ts hs listed
  | k :: l, listed => (ops[k]?).isSome && (Region.ready md ops listed).contains k && Region.free md ops listed k && ((ops[k]?).map flatOp).getD false && flatBP md ops hd hs gs ts l (listed.setIfInBounds k true)
theorem wpAny_flat (hsel : Region.noSelect ops = true) (hQ : Calm Q) (hs gs ts : List Nat) {w : World} (hw : C w) : ∀ (l : List Nat) (listed : Array Bool) (a : Act), flatBP md ops hd hs gs ts l listed = true →
    wpQuiet P ops (fun _ => True) (fun a1 => wpQuiet P ops C (fun a' => ∀ w, C w → wpQuiet P ops (fun _ => True) (fun a3 => wpList P ops Q (pickOps ops ts) a3 w) (pickOps ops gs) a') (pickOps ops hs) a1) (pickOps ops l) a → wpAny P md ops Q (l.length + (hs.length + (gs.length + ts.length))) listed a w
  | [], listed, a, hB, h => by
    simp only [List.length_nil, Nat.zero_add]
    exact wpAny_of_MP _ _ _ _ hw (wpAnyMP_head hsel hQ hw gs ts hs listed a hB h)
  | k :: l, listed, a, hB, h => by
    simp only [flatBP, Bool.and_eq_true] at hB
    obtain ⟨⟨⟨⟨hs1, hr⟩, hf⟩, hfl⟩, hB'⟩ := hB
    obtain ⟨o, h0⟩ := Option.isSome_iff_exists.1 hs1
    rw [pickOps_cons h0] at h
    have hst : qOp P ops (fun _ => True) k (wpQuiet P ops (fun _ => True) (fun a1 => wpQuiet P ops C (fun a' => ∀ w, C w → wpQuiet P ops (fun _ => True) (fun a3 => wpList P ops Q (pickOps ops ts) a3 w) (pickOps ops gs) a') (pickOps ops hs) a1) (pickOps ops l)) a := by unfold qOp; simp only [h0]; exact h
    obtain ⟨v, hy, hK⟩ := yieldsIn_of_qOp h0 hst
    have hfl' : flatOp o = true := by simpa [h0] using hfl
    rw [List.length_cons, Nat.add_right_comm]
    exact wpAny_first h0 (Region.noSelect_spec hsel) (fun c a w h => (hQ.1 c _ w h).elim) _ listed a w (Region.free_spec h0 hf) (by simpa using hr) (yields_of_flat hfl' hy)
      (wpAny_flat hsel hQ hs gs ts hw l _ _ hB' hK)

def hoistBP (ops : Array Oper) (fs hs gs ts : List Nat) : Bool := Region.noSelect ops && (fs.length + (hs.length + (gs.length + ts.length)) == ops.size) && flatBP .any ops (fun i => hs.contains i || fs.contains i) hs gs ts fs (Array.replicate ops.size false)

theorem wp_region_hoistP {id : Nat} {a : Act} {w : World} {l : List Oper} (fs hs gs ts : List Nat) (hm : P.follows .mixedOrders = true) (hB : hoistBP l.toArray fs hs gs ts = true) (hQ : Calm Q)
    (h : wpQuiet P l.toArray (fun _ => True) (fun a1 => wpQuiet P l.toArray (fun w' => ∃ k, w' = w.drewN k) (fun a' => ∀ w', (∃ k, w' = w.drewN k) → wpQuiet P l.toArray (fun _ => True) (fun a3 => wpList P l.toArray Q (pickOps l.toArray ts) a3 w') (pickOps l.toArray gs) a') (pickOps l.toArray hs) a1) (pickOps l.toArray fs) a) : (Code.region id l.toArray true).wp P Q a w := by
  simp only [hoistBP, Bool.and_eq_true, beq_iff_eq] at hB
  obtain ⟨⟨hsel, hn⟩, hh⟩ := hB
  refine wp_region_any hm ?_
  have hw0 : (fun w' => ∃ k, w' = w.drewN k) ({ w with drawn := w.drawn + 1 } : World) := ⟨1, rfl⟩
  have := wpAny_flat (C := fun w' => ∃ k, w' = w.drewN k) (md := .any) hsel hQ hs gs ts hw0 fs (Array.replicate l.toArray.size false) a hh h
  rw [hn] at this
  exact this

end
end Go.Proofs.YtoddjkpckpekcaaGreatDoor
namespace Go.Proofs.YtoddjkpckpekcaaGreatDoor
open Go.RowKit

set_option maxRecDepth 100000 in
theorem intBits (b o : Nat) (v : Value) (w : World) (hv : w.cell? ⟨b, o + 1, none⟩ = some v) (_hS : IsS v) :
    Calls Tryz.prog 122 #[.pointer (some ⟨b, o, none⟩)] w fun e w' => e = .returned v ∧ w = w' := by
  go_enter Tryz.func122, Tryz.ntmps122
  go_wp2
  go_ret
  exact ⟨rfl, rfl⟩
set_option maxRecDepth 100000 in
theorem intSign (b o : Nat) (neg : Bool) (v : Value) (w : World) (hn : w.cell? ⟨b, o, none⟩ = some (.bool neg)) (hv : w.cell? ⟨b, o + 1, none⟩ = some v) (hS : IsS v) :
    Calls Tryz.prog 121 #[.pointer (some ⟨b, o, none⟩)] w fun e w' => e = .returned (.int .i64 (sgnI neg (sLen v))) ∧ w = w' := by
  obtain ⟨l, hl⟩ : ∃ l, sLen v = l := ⟨_, rfl⟩
  rw [hl]
  by_cases h0 : l = 0
  · subst h0
    go_enter Tryz.func121, Tryz.ntmps121
    go_wp2
    go_ret
    exact ⟨rfl, rfl⟩
  · have t1 : ((l : Int) == 0) = false := by rw [beq_eq_false_iff_ne]; omega
    have H0 := Lib.hid h0
    clear h0
    cases neg
    · have e : sgnI false l = 1 := by unfold sgnI; rw [if_neg H0.out]; rfl
      have E := Lib.hid e
      clear e
      go_enter Tryz.func121, Tryz.ntmps121
      go_wp2
      go_ret
      exact ⟨congrArg (fun z => Ending.returned (.int .i64 z)) E.out.symm, rfl⟩
    · have e : sgnI true l = -1 := by unfold sgnI; rw [if_neg H0.out]; rfl
      have E := Lib.hid e
      clear e
      go_enter Tryz.func121, Tryz.ntmps121
      go_wp2
      go_ret
      exact ⟨congrArg (fun z => Ending.returned (.int .i64 z)) E.out.symm, rfl⟩
set_option maxRecDepth 100000 in
theorem setUint64_nil (d : Nat) (w : World) (h0 : 0 < d) (hd : d < 18446744073709551616) :
    Calls Tryz.prog 117 #[.slice none 0 0, .int .u64 d] w fun e w' => ∃ r, e = .returned r ∧ Own w' w.heap.size 98 r (cellsW [d]) ∧ Below w.heap.size w w' := by
  have H0 := Lib.hid h0
  have HD := Lib.hid hd
  clear h0 hd
  go_enter Tryz.func117, Tryz.ntmps117
  go_wp2_with fail
  refine (setWord_nil d w H0.out HD.out).mono ?_
  rintro _ w1 ⟨r, rfl, ho, hb⟩
  have hS := ho.isS
  go_wp2
  go_ret
  exact ⟨_, rfl, ho, hb⟩
theorem neqW_same (w : World) (a : Addr) : (binOp .neq 163 (.pointer (some a)) (.pointer (some a))).run Tryz.prog w = .ok (.bool false) w := by
  obtain ⟨j, hj, hz⟩ := info_size sizeWord
  exact Lib.run_neq_ptr_same w a Tryz.underlying163 hj
end Go.Proofs.YtoddjkpckpekcaaGreatDoor
