/-
Texts of this proof, joined: HoistP InD InE FlA Shelf BiA FlI. No condition.
-/
import Derived.Test.YtllhnjpnkmjopaaGreatDoorK01
import Derived.Test.YtllhnjpnkmjopaaGreatDoorK02
import Derived.Test.YtllhnjpnkmjopaaGreatDoorK03
import Derived.Lib.Builder
import Derived.Outline
import Derived.Shelf.Small.Bits
import Derived.Shelf.Strconv.Itoa0
import Derived.Shelf.Bits.Mul64
import Derived.Test.YtllhnjpnkmjopaaGreatDoorProg
import Derived.Lib.BitFns
namespace Go.Proofs.YtllhnjpnkmjopaaGreatDoor
section
variable {P : Program} {ops : Array Oper} {C : World → Prop} {Q : Exit → Act → World → Prop} {md : Region.Mode} {hd : Nat → Bool}

def pickOps (ops : Array Oper) (is : List Nat) : List Oper := is.flatMap fun i => (ops[i]?).toList
theorem pickOps_cons {i : Nat} {is : List Nat} {o : Oper} (h : ops[i]? = some o) : pickOps ops (i :: is) = o :: pickOps ops is := by simp [pickOps, h]

def tailBP (md : Region.Mode) (ops : Array Oper) : List Nat → Array Bool → Bool
  | [], listed => (Region.ready md ops listed).isEmpty
  | k :: l, listed =>
    (ops[k]?).isSome && ((Region.ready md ops listed == [k]) || (((ops[k]?).map plainOp).getD false && (Region.ready md ops listed).contains k && Region.free md ops listed k)) &&
      tailBP md ops l (listed.setIfInBounds k true)

theorem wpAny_tailP (hsel : Region.noSelect ops = true) (hQ : Calm Q) : ∀ (l : List Nat) (listed : Array Bool) (a : Act) (w : World),
    tailBP md ops l listed = true → wpList P ops Q (pickOps ops l) a w → wpAny P md ops Q l.length listed a w
  | [], listed, a, w, hB, h => ⟨by simpa [tailBP] using hB, h⟩
  | k :: l, listed, a, w, hB, h => by
    simp only [tailBP, Bool.and_eq_true, Bool.or_eq_true] at hB
    obtain ⟨⟨hs, hB1⟩, hB'⟩ := hB
    obtain ⟨o, h0⟩ := Option.isSome_iff_exists.1 hs
    rw [pickOps_cons h0] at h
    rcases hB1 with hr | ⟨⟨hp, hc⟩, hf⟩
    · have hr' : Region.ready md ops listed = [k] := by simpa using hr
      refine wpAny_all hr' (by simp) fun i hi => ?_
      have : i = k := by simpa using hi
      subst this
      unfold wpOp
      simp only [h0]
      unfold wpList at h
      split
      · rename_i hw
        rw [if_pos hw] at h
        exact h.imp (Oper.wp_mono fun a' w' h' => wpAny_tailP hsel hQ l _ a' w' hB' h') id
      · rename_i hw
        rw [if_neg hw] at h
        exact wpAny_tailP hsel hQ l _ _ w hB' h
    · have hpl : plainOp o = true := by simpa [h0] using hp
      unfold wpList at h
      by_cases hw : Region.wanted o (yielded ops a.tmps) = true
      · rw [if_pos hw] at h
        rcases h with h | ⟨_, a', w', h⟩
        · rcases plainOp_run (P := P) hpl a.eval w with ⟨v, hv⟩ | ⟨s, hs⟩
          · unfold Oper.wp at h
            rw [hv w] at h
            exact wpAny_first h0 (Region.noSelect_spec hsel) (fun c a w h => (hQ.1 c _ w h).elim) l.length listed a w (Region.free_spec h0 hf) (by simpa using hc) (.inl ⟨hw, hv⟩)
              (wpAny_tailP hsel hQ l _ _ w hB' h)
          · unfold Oper.wp at h
            rw [hs] at h
            exact h.elim
        · exact (hQ.2 _ _ h).elim
      · rw [if_neg hw] at h
        exact wpAny_first h0 (Region.noSelect_spec hsel) (fun c a w h => (hQ.1 c _ w h).elim) l.length listed a w (Region.free_spec h0 hf) (by simpa using hc) (.inr ⟨by simpa using hw, rfl⟩)
          (wpAny_tailP hsel hQ l _ _ w hB' h)

def flatOp (o : Oper) : Bool :=
  match o.op with
  | .move _ | .assign _ | .extract _ _ | .nilCheck _ | .fieldAddr _ _ _ => true
  | _ => false
theorem value_of_then {α : Type} {s : Result α} {f : α → Value} {n : Next} {w' : World} (h : (s.andThen fun x w => Result.ok (Next.value (f x)) w) = .ok n w') : ∃ u, n = .value u := by
  cases s with
  | ok x w1 => simp [Result.andThen] at h; exact ⟨_, h.1.symm⟩
  | halt c w1 => simp [Result.andThen] at h
theorem flatOp_value {o : Oper} (h : flatOp o = true) (ρ : Operand → Value) (w w' : World) (n : Next) (hr : (execOp ρ o).run P w = .ok n w') : ∃ u, n = .value u := by
  obtain ⟨dst, op, type, pos, after, guard⟩ := o
  unfold flatOp at h
  split at h
  · rename_i x heq; simp only at heq; subst heq; cases hr; exact ⟨_, rfl⟩
  · rename_i x heq; simp only at heq; subst heq; cases hr; exact ⟨_, rfl⟩
  · rename_i x i heq; simp only at heq; subst heq
    simp only [execOp, Sem.run_bind, Sem.run_pure] at hr
    exact value_of_then (f := id) hr
  · rename_i x heq; simp only at heq; subst heq
    simp only [execOp] at hr
    split at hr
    · cases hr
    · cases hr
    · cases hr
    · split at hr
      · cases hr
      · simp only [Sem.run_bind] at hr
        cases hb : Sem.run P program w with
        | halt c w1 => rw [hb] at hr; cases hr
        | ok p w1 =>
          rw [hb] at hr
          simp only [Result.andThen_ok] at hr
          generalize Sem.run P (nilAhead _ _ _ _) w1 = R at hr
          cases R with
          | halt c w2 => cases hr
          | ok b w2 =>
            simp only [Result.andThen_ok] at hr
            split at hr
            · cases hr
            · cases hr; exact ⟨_, rfl⟩
      · cases hr; exact ⟨_, rfl⟩
    · cases hr; exact ⟨_, rfl⟩
  · rename_i x y z heq; simp only at heq; subst heq
    simp only [execOp, Sem.run_bind, Sem.run_pure] at hr
    exact value_of_then (f := id) hr
  · cases h

theorem yields_of_flat {o : Oper} {v : Value} {a : Act} (hf : flatOp o = true) (hy : YieldsIn P ops (fun _ => True) o v a) : Yields P ops o v a := by
  rcases hy with ⟨hw, hv⟩ | ⟨hw, hv⟩
  · refine .inl ⟨hw, fun w => ?_⟩
    have h1 := hv w trivial
    unfold Oper.quietAt at h1
    cases hr : (execOp a.eval o).run P w with
    | halt c w' => rw [hr] at h1; exact h1.elim
    | ok n w' =>
      obtain ⟨u, rfl⟩ := flatOp_value hf _ _ _ _ hr
      rw [hr] at h1
      obtain ⟨h2, h3⟩ := h1
      rw [h2, h3]
  · exact .inr ⟨hw, hv⟩
def tailGP (md : Region.Mode) (ops : Array Oper) (ts : List Nat) : List Nat → Array Bool → Bool
  | [], listed => tailBP md ops ts listed
  | k :: l, listed => (ops[k]?).isSome && (Region.ready md ops listed).contains k && Region.free md ops listed k && ((ops[k]?).map flatOp).getD false && tailGP md ops ts l (listed.setIfInBounds k true)
theorem wpAny_tailG (hsel : Region.noSelect ops = true) (hQ : Calm Q) (ts : List Nat) {w : World} : ∀ (l : List Nat) (listed : Array Bool) (a : Act), tailGP md ops ts l listed = true →
    wpQuiet P ops (fun _ => True) (fun a' => wpList P ops Q (pickOps ops ts) a' w) (pickOps ops l) a → wpAny P md ops Q (l.length + ts.length) listed a w
  | [], listed, a, hB, h => by
    simp only [List.length_nil, Nat.zero_add]
    exact wpAny_tailP hsel hQ ts listed a w hB h
  | k :: l, listed, a, hB, h => by
    simp only [tailGP, Bool.and_eq_true] at hB
    obtain ⟨⟨⟨⟨hs1, hr⟩, hf⟩, hfl⟩, hB'⟩ := hB
    obtain ⟨o, h0⟩ := Option.isSome_iff_exists.1 hs1
    rw [pickOps_cons h0] at h
    have hst : qOp P ops (fun _ => True) k (wpQuiet P ops (fun _ => True) (fun a' => wpList P ops Q (pickOps ops ts) a' w) (pickOps ops l)) a := by unfold qOp; simp only [h0]; exact h
    obtain ⟨v, hy, hK⟩ := yieldsIn_of_qOp h0 hst
    have hfl' : flatOp o = true := by simpa [h0] using hfl
    rw [List.length_cons, Nat.add_right_comm]
    exact wpAny_first h0 (Region.noSelect_spec hsel) (fun c a w h => (hQ.1 c _ w h).elim) _ listed a w (Region.free_spec h0 hf) (by simpa using hr) (yields_of_flat hfl' hy)
      (wpAny_tailG hsel hQ ts l _ _ hB' hK)

def wpAnyMP (P : Program) (md : Region.Mode) (ops : Array Oper) (C : World → Prop) (hd : Nat → Bool) (Q : Exit → Act → World → Prop) : Nat → Array Bool → Act → Prop
  | 0, listed, a => Region.ready md ops listed = [] ∧ ∀ w, C w → Q .normal a w
  | fuel + 1, listed, a =>
    (Region.ready md ops listed = [] → ∀ w, C w → Q .normal a w) ∧
    ∀ i ∈ Region.ready md ops listed,
      (hd i = true → qOp P ops C i (wpAnyMP P md ops C hd Q fuel (listed.setIfInBounds i true)) a) ∧
      (hd i = false → ∀ w, C w → wpOp P ops Q i (wpAny P md ops Q fuel (listed.setIfInBounds i true)) a w)

theorem wpAny_of_MP : ∀ (fuel : Nat) (listed : Array Bool) (a : Act) (w : World), C w → wpAnyMP P md ops C hd Q fuel listed a → wpAny P md ops Q fuel listed a w
  | 0, _, _, w, hw, h => ⟨h.1, h.2 w hw⟩
  | fuel + 1, _, _, w, hw, h => ⟨fun h0 => h.1 h0 w hw, fun i hi => by
      cases hin : hd i with
      | true => exact wpOp_of_qOp hw (fun a' w' hw' => wpAny_of_MP fuel _ a' w' hw') ((h.2 i hi).1 hin)
      | false => exact (h.2 i hi).2 hin w hw⟩

def waitsBP (md : Region.Mode) (ops : Array Oper) (hd : Nat → Bool) (k : Nat) (listed : Array Bool) (D : Nat → Bool) : Bool :=
  D k && (List.range ops.size).all fun j => (hd j || D j) && (!D j || (!listed.getD j true && (j == k || ((ops[j]?).map (·.after.any fun e => Region.binds md e && D e.on && decide (e.on < ops.size))).getD false)))
structure WaitsP (md : Region.Mode) (ops : Array Oper) (hd : Nat → Bool) (k : Nat) (D : Nat → Bool) : Prop where
  late : ∀ j, j < ops.size → hd j = false → D j = true
  back : ∀ j oj, ops[j]? = some oj → D j = true → j ≠ k → ∃ e ∈ oj.after, Region.binds md e = true ∧ D e.on = true ∧ e.on < ops.size

theorem wpAnyMP_first {k : Nat} {ok : Oper} {v : Value} {D : Nat → Bool} (hk : ops[k]? = some ok) (hkn : hd k = true) (hsel : ∀ (j : Nat) (o : Oper) cs b, ops[j]? = some o → o.op ≠ .select cs b) (hD : WaitsP md ops hd k D) :
    ∀ (fuel : Nat) (listed : Array Bool) (a : Act),
      (∀ j oj, ops[j]? = some oj → j ≠ k → listed.getD j true = false → (∀ e ∈ oj.after, Region.binds md e = true → e.on ≠ k) → ok.apart ops oj = true) →
      (∀ j, j < ops.size → D j = true → listed.getD j true = false) →
      k ∈ Region.ready md ops listed → YieldsIn P ops C ok v a →
      wpAnyMP P md ops C hd Q fuel (listed.setIfInBounds k true) (a.put ok.dst v) → wpAnyMP P md ops C hd Q (fuel + 1) listed a := by
  intro fuel
  induction fuel with
  | zero =>
    intro listed a _ _ hr hy H
    refine ⟨fun h => (by rw [h] at hr; cases hr), fun j hj => ?_⟩
    by_cases hjk : j = k
    · subst hjk; exact ⟨fun _ => hy.qOp hk H, fun h => by rw [hkn] at h; cases h⟩
    · have := ready_mono hj hjk
      rw [H.1] at this
      cases this
  | succ fuel ih =>
    intro listed a hfree hun hr hy H
    refine ⟨fun h => (by rw [h] at hr; cases hr), fun j hj => ?_⟩
    by_cases hjk : j = k
    · subst hjk; exact ⟨fun _ => hy.qOp hk H, fun h => by rw [hkn] at h; cases h⟩
    · obtain ⟨hjun, oj, hoj, hall⟩ := mem_ready.1 hj
      have hjs : j < ops.size := (Array.getElem?_eq_some_iff.1 hoj).1
      have hjD : D j ≠ true := fun hd => by
        obtain ⟨e, he, hb, hde, hes⟩ := hD.back j oj hoj hd hjk
        have h1 := hall e he hb
        have h0 := hun e.on hes hde
        rcases Nat.lt_or_ge e.on listed.size with h' | h'
        · simp [h'] at h0 h1; rw [h0] at h1; cases h1
        · simp [Array.getElem?_eq_none h'] at h1
      have hjn : hd j = true := by
        cases h : hd j with
        | true => rfl
        | false => exact absurd (hD.late j hjs h) hjD
      refine ⟨fun _ => ?_, fun h => by rw [hjn] at h; cases h⟩
      have h1 := (H.2 j (ready_mono hj hjk)).1 hjn
      have hnot : ∀ e ∈ oj.after, Region.binds md e = true → e.on ≠ k := fun e he hb heq => by
        have h1 := hall e he hb
        have h0 := (mem_ready.1 hr).1
        rw [heq] at h1
        rcases Nat.lt_or_ge k listed.size with h' | h'
        · simp [h'] at h0 h1; rw [h0] at h1; cases h1
        · simp [Array.getElem?_eq_none h'] at h1
      have h2 := qOp_put hoj (hfree j oj hoj hjk hjun hnot) (fun cs b => hsel k ok cs b hk) (fun cs b => hsel j oj cs b hoj) hy h1
      refine qOp_mono (fun a' h3 => ih (listed.setIfInBounds j true) a' ?_ ?_ (ready_mono hr (Ne.symm hjk)) h3.1 ?_) h2
      · intro i oi hi hik hiun hno
        refine hfree i oi hi hik ?_ hno
        by_cases hji : j = i
        · subst hji; exact hjun
        · rw [getD_set_ne true hji] at hiun; exact hiun
      · intro i his hd
        have : j ≠ i := fun e => hjD (e ▸ hd)
        rw [getD_set_ne true this]; exact hun i his hd
      · rw [Array.setIfInBounds_comm _ _ hjk]
        exact h3.2

def headBP (md : Region.Mode) (ops : Array Oper) (hd : Nat → Bool) (gs ts : List Nat) : List Nat → Array Bool → Bool
  | [], listed => ((List.range ops.size).all fun i => !hd i || listed.getD i false) && tailGP md ops ts gs listed
  | k :: l, listed =>
    (ops[k]?).isSome && hd k && (Region.ready md ops listed).contains k && Region.free md ops listed k && waitsBP md ops hd k listed (fun j => (desc md ops k).getD j false) && headBP md ops hd gs ts l (listed.setIfInBounds k true)

theorem wpAnyMP_head (hsel : Region.noSelect ops = true) (hQ : Calm Q) {w0 : World} (hw0 : C w0) (gs ts : List Nat) : ∀ (l : List Nat) (listed : Array Bool) (a : Act),
    headBP md ops hd gs ts l listed = true → wpQuiet P ops C (fun a' => ∀ w, C w → wpQuiet P ops (fun _ => True) (fun a3 => wpList P ops Q (pickOps ops ts) a3 w) (pickOps ops gs) a') (pickOps ops l) a → wpAnyMP P md ops C hd Q (l.length + (gs.length + ts.length)) listed a
  | [], listed, a, hB, h => by
    simp only [headBP, Bool.and_eq_true, List.all_eq_true, List.mem_range, Bool.or_eq_true, Bool.not_eq_true'] at hB
    obtain ⟨hli, ht⟩ := hB
    have key : ∀ w, C w → wpAny P md ops Q (gs.length + ts.length) listed a w := fun w hw => wpAny_tailG hsel hQ ts gs listed a ht (h w hw)
    simp only [List.length_nil, Nat.zero_add]
    cases hf : gs.length + ts.length with
    | zero => rw [hf] at key; exact ⟨(key w0 hw0).1, fun w hw => (key w hw).2⟩
    | succ f =>
      rw [hf] at key
      refine ⟨fun h0 w hw => (key w hw).1 h0, fun i hi => ⟨fun hik => ?_, fun _ w hw => (key w hw).2 i hi⟩⟩
      exfalso
      obtain ⟨hr, oj, hoj, _⟩ := mem_ready.1 hi
      have hs : i < ops.size := (Array.getElem?_eq_some_iff.1 hoj).1
      have h1 := (hli i hs).resolve_left (by rw [hik]; simp)
      rcases Nat.lt_or_ge i listed.size with h' | h'
      · simp [h'] at hr h1; rw [hr] at h1; cases h1
      · simp [Array.getElem?_eq_none h'] at h1
  | k :: l, listed, a, hB, h => by
    simp only [headBP, Bool.and_eq_true] at hB
    obtain ⟨⟨⟨⟨⟨hs, hkn⟩, hr⟩, hf⟩, hw⟩, hB'⟩ := hB
    obtain ⟨o, h0⟩ := Option.isSome_iff_exists.1 hs
    rw [pickOps_cons h0] at h
    have hst : qOp P ops C k (wpQuiet P ops C (fun a' => ∀ w, C w → wpQuiet P ops (fun _ => True) (fun a3 => wpList P ops Q (pickOps ops ts) a3 w) (pickOps ops gs) a') (pickOps ops l)) a := by unfold qOp; simp only [h0]; exact h
    obtain ⟨v, hy, hK⟩ := yieldsIn_of_qOp h0 hst
    have IH := wpAnyMP_head hsel hQ hw0 gs ts l (listed.setIfInBounds k true) (a.put o.dst v) hB' hK
    rw [List.length_cons, Nat.add_right_comm]
    simp only [waitsBP, Bool.and_eq_true, List.all_eq_true, List.mem_range] at hw
    obtain ⟨hDk, hall⟩ := hw
    refine wpAnyMP_first (D := fun j => (desc md ops k).getD j false) h0 hkn (Region.noSelect_spec hsel) ⟨fun j hj hnj => ?_, fun j oj hj hd hjk => ?_⟩ _ listed a (Region.free_spec h0 hf) (fun j hj hd => ?_) (by simpa using hr) hy IH
    · have := (hall j hj).1
      simp only [Bool.or_eq_true] at this
      exact this.resolve_left (by rw [hnj]; simp)
    · have h1 := (hall j (Array.getElem?_eq_some_iff.1 hj).1).2
      simp only [Bool.or_eq_true, Bool.not_eq_true', Bool.and_eq_true, beq_iff_eq, hj, Option.map_some, Option.getD_some] at h1
      rcases h1 with h1 | ⟨_, h1⟩
      · rw [h1] at hd; cases hd
      · obtain ⟨e, he, hb⟩ := Array.any_eq_true'.1 (h1.resolve_left hjk)
        simp only [Bool.and_eq_true, decide_eq_true_eq] at hb
        exact ⟨e, he, hb.1.1, hb.1.2, hb.2⟩
    · have h1 := (hall j hj).2
      simp only [Bool.or_eq_true, Bool.not_eq_true', Bool.and_eq_true] at h1
      rcases h1 with h1 | ⟨h1, _⟩
      · rw [h1] at hd; cases hd
      · exact h1

def flatBP (md : Region.Mode) (ops : Array Oper) (hd : Nat → Bool) (hs gs ts : List Nat) : List Nat → Array Bool → Bool
  | [], listed => headBP md ops hd gs ts hs listed
  | k :: l, listed => (ops[k]?).isSome && (Region.ready md ops listed).contains k && Region.free md ops listed k && ((ops[k]?).map flatOp).getD false && flatBP md ops hd hs gs ts l (listed.setIfInBounds k true)
theorem wpAny_flat (hsel : Region.noSelect ops = true) (hQ : Calm Q) (hs gs ts : List Nat) {w : World} (hw : C w) : ∀ (l : List Nat) (listed : Array Bool) (a : Act), flatBP md ops hd hs gs ts l listed = true →
    wpQuiet P ops (fun _ => True) (fun a1 => wpQuiet P ops C (fun a' => ∀ w, C w → wpQuiet P ops (fun _ => True) (fun a3 => wpList P ops Q (pickOps ops ts) a3 w) (pickOps ops gs) a') (pickOps ops hs) a1) (pickOps ops l) a → wpAny P md ops Q (l.length + (hs.length + (gs.length + ts.length))) listed a w
  | [], listed, a, hB, h => by
    simp only [List.length_nil, Nat.zero_add]
    exact wpAny_of_MP _ _ _ _ hw (wpAnyMP_head hsel hQ hw gs ts hs listed a hB h)
  | k :: l, listed, a, hB, h => by
    simp only [flatBP, Bool.and_eq_true] at hB
    obtain ⟨⟨⟨⟨hs1, hr⟩, hf⟩, hfl⟩, hB'⟩ := hB
    obtain ⟨o, h0⟩ := Option.isSome_iff_exists.1 hs1
    rw [pickOps_cons h0] at h
    have hst : qOp P ops (fun _ => True) k (wpQuiet P ops (fun _ => True) (fun a1 => wpQuiet P ops C (fun a' => ∀ w, C w → wpQuiet P ops (fun _ => True) (fun a3 => wpList P ops Q (pickOps ops ts) a3 w) (pickOps ops gs) a') (pickOps ops hs) a1) (pickOps ops l)) a := by unfold qOp; simp only [h0]; exact h
    obtain ⟨v, hy, hK⟩ := yieldsIn_of_qOp h0 hst
    have hfl' : flatOp o = true := by simpa [h0] using hfl
    rw [List.length_cons, Nat.add_right_comm]
    exact wpAny_first h0 (Region.noSelect_spec hsel) (fun c a w h => (hQ.1 c _ w h).elim) _ listed a w (Region.free_spec h0 hf) (by simpa using hr) (yields_of_flat hfl' hy)
      (wpAny_flat hsel hQ hs gs ts hw l _ _ hB' hK)

def hoistBP (ops : Array Oper) (fs hs gs ts : List Nat) : Bool := Region.noSelect ops && (fs.length + (hs.length + (gs.length + ts.length)) == ops.size) && flatBP .any ops (fun i => hs.contains i || fs.contains i) hs gs ts fs (Array.replicate ops.size false)

theorem wp_region_hoistP {id : Nat} {a : Act} {w : World} {l : List Oper} (fs hs gs ts : List Nat) (hm : P.follows .mixedOrders = true) (hB : hoistBP l.toArray fs hs gs ts = true) (hQ : Calm Q)
    (h : wpQuiet P l.toArray (fun _ => True) (fun a1 => wpQuiet P l.toArray (fun w' => ∃ k, w' = w.drewN k) (fun a' => ∀ w', (∃ k, w' = w.drewN k) → wpQuiet P l.toArray (fun _ => True) (fun a3 => wpList P l.toArray Q (pickOps l.toArray ts) a3 w') (pickOps l.toArray gs) a') (pickOps l.toArray hs) a1) (pickOps l.toArray fs) a) : (Code.region id l.toArray true).wp P Q a w := by
  simp only [hoistBP, Bool.and_eq_true, beq_iff_eq] at hB
  obtain ⟨⟨hsel, hn⟩, hh⟩ := hB
  refine wp_region_any hm ?_
  have hw0 : (fun w' => ∃ k, w' = w.drewN k) ({ w with drawn := w.drawn + 1 } : World) := ⟨1, rfl⟩
  have := wpAny_flat (C := fun w' => ∃ k, w' = w.drewN k) (md := .any) hsel hQ hs gs ts hw0 fs (Array.replicate l.toArray.size false) a hh h
  rw [hn] at this
  exact this

end
end Go.Proofs.YtllhnjpnkmjopaaGreatDoor
namespace Go.Proofs.YtllhnjpnkmjopaaGreatDoor
open Go.RowKit

def CellF (w : World) (b i : Nat) (v : Value) : Prop := w.cell? ⟨b, i, none⟩ = some v ∧ w.frozen? ⟨b, i, none⟩ = false
set_option maxRecDepth 100000 in
theorem intBits (b o : Nat) (v : Value) (w : World) (hv : w.cell? ⟨b, o + 1, none⟩ = some v) (_hS : IsS v) :
    Calls Tryz.prog 137 #[.pointer (some ⟨b, o, none⟩)] w fun e w' => e = .returned v ∧ w = w' := by
  go_enter Tryz.func137, Tryz.ntmps137
  go_wp2
  go_ret
  exact ⟨rfl, rfl⟩
theorem RI.drewN {k : IntKind} {w : World} {v : Value} {xs : List Int} (h : RI k w v xs) (n : Nat) : RI k (w.drewN n) v xs := ⟨h.isS, h.len, h.cell⟩
theorem RW.drewN {w : World} {v : Value} {ds : List Nat} (h : RW w v ds) (n : Nat) : RW (w.drewN n) v ds := ⟨h.ri.drewN n, h.lt⟩
set_option maxRecDepth 100000 in
theorem intSetBits (b o : Nat) (x0 x1 v : Value) (ws : List Nat) (w : World) (h0 : CellF w b o x0) (h1 : CellF w b (o + 1) x1) (hv : RW w v ws) (hl : ws.length ≤ 1000000000) :
    Calls Tryz.prog 74 #[.pointer (some ⟨b, o, none⟩), v] w fun e w' => e = .returned (.pointer (some ⟨b, o, none⟩)) ∧ w' = (w.setCell ⟨b, o + 1, none⟩ (subS v 0 (nw (wv ws)))).setCell ⟨b, o, none⟩ (.bool false) := by
  have hS := hv.isS
  have hL := hv.len
  obtain ⟨c0, f0⟩ := h0
  obtain ⟨c1, f1⟩ := h1
  have hnw := nw_le (wv_lt hv.lt)
  have hcap := hS.le
  have hS2 : IsS (subS v 0 (nw (wv ws))) := subS_isS hS (Nat.zero_le _) (by omega)
  go_enter Tryz.func74, Tryz.ntmps74
  go_wp2_with fail
  refine (norm_any v ws w hv hl).mono ?_
  rintro _ _ ⟨rfl, rfl⟩
  go_wp2
  go_ret
  exact ⟨rfl, rfl⟩
theorem run_neq_ptr_other {P : Program} (w : World) {tp te : TypeId} {j : TypeInfo} {a b : Addr} {ca cb : Array Value} {ta tb : TypeId} (hp : P.underlying tp = some (.pointer te)) (hte : P.info? te = some j) (hsz : j.size ≠ 0)
    (hne : a ≠ b) (ha : w.heap[a.block]? = some (.cells ca ta (0, 0))) (hb : w.heap[b.block]? = some (.cells cb tb (0, 0))) :
    (binOp .neq tp (.pointer (some a)) (.pointer (some b))).run P w = .ok (.bool true) w := by
  have h : ∀ d : Nat, (Op.equalIn (d + 1) tp (.pointer (some a)) (.pointer (some b))).run P w = .ok false w := fun d => by
    simp [Op.equalIn, run_underlying hp, sizeOf, typeInfo, hte, hsz, run_sameAddr_other w hne ha hb]
  simp only [binOp]
  simp [Op.equal, Op.maxDepth, h 9999]
theorem info_size {P : Program} {t n : Nat} (h : (P.info? t).map (·.size) = some n) : ∃ j, P.info? t = some j ∧ j.size = n := by
  cases hi : P.info? t with
  | none => rw [hi] at h; cases h
  | some i => rw [hi] at h; exact ⟨i, rfl, by simpa using h⟩
theorem sizeI : (Tryz.prog.info? 110).map (·.size) = some 2 := by kernel_rfl
theorem neqI_same (w : World) (a : Addr) : (binOp .neq 114 (.pointer (some a)) (.pointer (some a))).run Tryz.prog w = .ok (.bool false) w := by
  obtain ⟨j, hj, hz⟩ := info_size sizeI
  exact Lib.run_neq_ptr_same w a Tryz.underlying114 hj
theorem row_at {w : World} {b i : Nat} {cs : Array Value} {T : TypeId} {v : Value} (h : w.heap[b]? = some (.cells cs T (0, 0))) (hv : cs[i]? = some v) : CellF w b i v :=
  ⟨by rw [cell_of_row w b i _ _ _ h]; exact hv, frozen_of_row w b i _ _ h⟩
set_option maxRecDepth 100000 in
theorem intSet_same (a : Addr) (w : World) :
    Calls Tryz.prog 114 #[.pointer (some a), .pointer (some a)] w fun e w' => e = .returned (.pointer (some a)) ∧ w = w' := by
  have hcmp := neqI_same w a
  go_enter Tryz.func114, Tryz.ntmps114
  go_wp2
  go_ret
  exact ⟨rfl, rfl⟩
set_option maxRecDepth 100000 in
theorem intNeg_same (b o : Nat) (neg : Bool) (v : Value) (w : World) (h0 : CellF w b o (.bool neg)) (h1 : CellF w b (o + 1) v) (hS : IsS v) :
    Calls Tryz.prog 116 #[.pointer (some ⟨b, o, none⟩), .pointer (some ⟨b, o, none⟩)] w fun e w' => e = .returned (.pointer (some ⟨b, o, none⟩)) ∧ ∃ n, w' = (w.drewN n).setCell ⟨b, o, none⟩ (.bool (decide (0 < sLen v) && !neg)) := by
  obtain ⟨c0, f0⟩ := h0
  obtain ⟨c1, f1⟩ := h1
  obtain ⟨l, hl⟩ : ∃ l, sLen v = l := ⟨_, rfl⟩
  rw [hl]
  have hd : decide (0 < l) = true ∨ decide (0 < l) = false := by cases decide (0 < l) <;> simp
  rcases hd with t1 | t1
  all_goals
    rw [t1]
    go_enter Tryz.func116, Tryz.ntmps116
    go_wp2_with fail
    refine (intSet_same _ w).mono ?_
    rintro _ _ ⟨rfl, rfl⟩
    go_wp2
    go_ret
    exact ⟨rfl, 0, rfl⟩
theorem take_nw {ws : List Nat} (h : ∀ d ∈ ws, d < 18446744073709551616) : ws.take (nw (wv ws)) = wds (wv ws) := by
  have hl := nw_le (wv_lt h)
  refine list_ext_getD (by rw [wds_length]; simp; omega) fun i => ?_
  rw [wds_getD, wv_dig h]
  by_cases hi : i < nw (wv ws)
  · simp [List.getD_eq_getElem?_getD, hi]
  · have h1 := wv_dig h i
    rw [wdg_ge (by omega)] at h1
    rw [← h1, List.getD_eq_getElem?_getD, List.getElem?_eq_none (by simp; omega)]; rfl
theorem rowset {w : World} {g i : Nat} {cs : Array Value} {T : TypeId} (u : Value) (h : w.heap[g]? = some (.cells cs T (0, 0))) : (w.setCell ⟨g, i, none⟩ u).heap[g]? = some (.cells (cs.setIfInBounds i u) T (0, 0)) := heap_setCell_same w g i _ _ u h
theorem Own.ne_row {w : World} {B e g : Nat} {v : Value} {xs : List Value} {cs : Array Value} {T : TypeId} (h : Own w B e v xs) (hr : w.heap[g]? = some (.cells cs T (0, 0))) (hT : T ≠ e) (hc : 0 < sCap v) : sBlk v ≠ g := by
  rcases h.row with h0 | ⟨_, cur, hg, _⟩
  · omega
  · intro he
    rw [he, hr] at hg
    simp only [Option.some.injEq, Obj.cells.injEq] at hg
    exact hT hg.2.1
theorem Own.away {w : World} {B e g : Nat} {v : Value} {xs : List Value} {cs : Array Value} {T : TypeId} (h : Own w B e v xs) (hr : w.heap[g]? = some (.cells cs T (0, 0))) (hT : T ≠ e) (i : Nat) (u : Value) : Own (w.setCell ⟨g, i, none⟩ u) B e v xs :=
  h.same fun hc => heap_setCell_other _ _ _ _ (by simpa using h.ne_row hr hT hc)
theorem Own.below {w w' : World} {B e : Nat} {v : Value} {xs : List Value} (h : Own w B e v xs) (hb : Below w.heap.size w w') : Own w' B e v xs :=
  h.same fun hc => hb.block _ (h.lt hc).2
theorem Own.takeW {w : World} {B e : Nat} {v : Value} {ws : List Nat} (h : Own w B e v (cellsW ws)) (hd : ∀ d ∈ ws, d < 18446744073709551616) : Own w B e (subS v 0 (nw (wv ws))) (cellsW (wds (wv ws))) := by
  have hl := nw_le (wv_lt hd)
  have := h.sub (l := 0) (n := nw (wv ws)) (Nat.zero_le _) (by rw [cellsW_length]; exact hl)
  rw [List.drop_zero] at this
  rw [← take_nw hd, cellsW, List.map_take]
  exact this

def IntP (w : World) (B b : Nat) (neg : Bool) (n : Nat) : Prop :=
  ∃ v, B ≤ b ∧ w.heap[b]? = some (.cells #[.bool neg, v] 110 (0, 0)) ∧ Own w B 116 v (cellsW (wds n))
theorem wds_all (n : Nat) : ∀ d ∈ wds n, d < 18446744073709551616 := fun _ h => wds_lt h
theorem IntP.below {w w' : World} {B b : Nat} {neg : Bool} {n : Nat} (h : IntP w B b neg n) (hb : Below w.heap.size w w') : IntP w' B b neg n := by
  obtain ⟨v, h1, h2, h3⟩ := h
  exact ⟨v, h1, keep_row hb h2, h3.below hb⟩
def OfW (ws : List Nat) (B k : Nat) (w : World) (v : Value) (wr : World) : Prop := Own wr B 116 v (cellsW (ws.take k)) ∧ Below B w wr
theorem OfW.step {ws : List Nat} {B k : Nat} {w w1 : World} {v1 : Value} (hk : k < ws.length) (h : Own w1 B 116 v1 (cellsW (ws.take k) ++ [.int .u64 ((ws.getD k 0 : Nat) : Int)])) (hb : Below B w w1) : OfW ws B (k + 1) w v1 w1 := by
  refine ⟨?_, hb⟩
  rw [cellsW_snoc] at h
  rw [List.take_succ_eq_append_getElem hk]
  simpa [List.getD_eq_getElem?_getD, List.getElem?_eq_getElem hk] using h
theorem and_pos {n : Nat} : (decide (0 < nw n) && !false) = decide (0 < n) := by
  rcases Nat.eq_zero_or_pos n with h | h
  · subst h; rfl
  · simp [h, nw_pos h]
theorem setBits_fresh {wr : World} {B : Nat} {u : Value} {ws : List Nat} (ho : Own wr B 116 u (cellsW ws)) (hd : ∀ d ∈ ws, d < 18446744073709551616) (hB : B ≤ wr.heap.size) :
    IntP (((wr.alloc (.cells #[.bool false, .slice none 0 0] 110)).setCell ⟨wr.heap.size, 0 + 1, none⟩ (subS u 0 (nw (wv ws)))).setCell ⟨wr.heap.size, 0, none⟩ (.bool false)) B wr.heap.size false (wv ws) ∧
    Below wr.heap.size wr (((wr.alloc (.cells #[.bool false, .slice none 0 0] 110)).setCell ⟨wr.heap.size, 0 + 1, none⟩ (subS u 0 (nw (wv ws)))).setCell ⟨wr.heap.size, 0, none⟩ (.bool false)) := by
  have r0 := box_row (Below.refl _ (wr.alloc (.cells #[.bool false, .slice none 0 0] 110)))
  have r1 := rowset (i := 0 + 1) (subS u 0 (nw (wv ws))) r0
  have r2 := rowset (i := 0) (.bool false) r1
  have o0 := (ho.alloc (.cells #[.bool false, .slice none 0 0] 110)).takeW hd
  have o1 := o0.away r0 (by decide) (0 + 1) (subS u 0 (nw (wv ws)))
  have o2 := o1.away r1 (by decide) 0 (.bool false)
  exact ⟨⟨_, hB, r2, o2⟩, bset (bset ((Below.refl _ _).alloc (Nat.le_refl _) _) (Nat.le_refl _)) (Nat.le_refl _)⟩
theorem IntP.setNeg {w : World} {B b n : Nat} {neg : Bool} (h : IntP w B b neg n) (k : Nat) (x : Bool) : IntP ((w.drewN k).setCell ⟨b, 0, none⟩ (.bool x)) B b x n := by
  obtain ⟨v, h1, h2, h3⟩ := h
  exact ⟨v, h1, rowset (i := 0) (.bool x) (w := w.drewN k) h2, (h3.drewN k).away (w := w.drewN k) h2 (by decide) 0 _⟩
theorem IntP.mono {w : World} {B B' b n : Nat} {neg : Bool} (h : IntP w B b neg n) (hB : B' ≤ B) : IntP w B' b neg n := by
  obtain ⟨v, h1, h2, h3⟩ := h
  exact ⟨v, Nat.le_trans hB h1, h2, h3.mono hB⟩
set_option maxRecDepth 100000 in
set_option maxHeartbeats 800000 in
theorem of_any (b : Bool) (v : Value) (ws : List Nat) (w : World) (hv : RW w v ws) (hl : ws.length ≤ 100000000) :
    Calls Tryz.prog 72 #[.agg #[.bool b, v]] w fun e w' => ∃ g, e = .returned (.pointer (some ⟨g, 0, none⟩)) ∧ IntP w' w.heap.size g (b && decide (0 < wv ws)) (wv ws) ∧ Below w.heap.size w w' := by
  have hSv := hv.isS
  have hLv := hv.len
  obtain ⟨la, hla⟩ : ∃ la, la = ws.length := ⟨_, rfl⟩
  rw [← hla] at hLv hl
  have Hla := Lib.hid hla
  have Hv := Lib.hid hv
  clear hla hv
  have hab := (Below.refl w.heap.size w).alloc (Nat.le_refl _) (.cells #[.bool b, v] 24)
  obtain ⟨W, hW⟩ : ∃ W, W = w.alloc (.cells #[.bool b, v] 24) := ⟨_, rfl⟩
  have hrow : W.heap[w.heap.size]? = some (.cells #[.bool b, v] 24 (0, 0)) := by rw [hW]; exact box_row (Below.refl _ _)
  rw [← hW] at hab
  have hWs : w.heap.size ≤ W.heap.size := hab.size
  have HR := Lib.hid hrow
  have HV := Lib.hid (Hv.out.below hab)
  have HW := Lib.hid hW
  clear hrow
  go_enter Tryz.func72, Tryz.ntmps72
  go_wp2
  rw [← hW]
  clear hW
  go_loopw [3, 10] (fun v i wr => ∃ k : Nat, k ≤ la ∧ i = .int .i64 k ∧ OfW ws W.heap.size k W v wr) (fun _ i _ => la - (intOf i).toNat)
  case atStart => exact ⟨0, Nat.zero_le _, rfl, Own.nil _ _ _, Below.refl _ _⟩
  case round =>
    obtain ⟨i, hi, rfl, hO, hbl⟩ := hrel
    have hbz := hbl.size
    have hSo : IsS u3 := hO.isS
    have HO := Lib.hid hO
    clear hO
    by_cases hia : i < la
    · have ca := (HV.out.below hbl).cell i (by rw [← Hla.out]; exact hia)
      obtain ⟨d, hd⟩ : ∃ d, d = ws.getD i 0 := ⟨_, rfl⟩
      rw [← hd] at ca
      have Hd := Lib.hid hd
      clear hd
      have hlk : (cellsW (ws.take i)).length = i := by rw [cellsW_length]; have := Hla.out; simp; omega
      have Hlk := Lib.hid hlk
      clear hlk
      go_wp2_with (at_builtin; refine wpList_append_O rfl _ _ _ _ rfl elemW W.heap.size _ _ rfl (HO.out.alloc _) _ rfl 1 [.int .u64 (d : Int)] (srcOne Tryz.underlying107 wr _ _) ?c3 ?c4 ?c5 ?_)
      case c3 => rw [Hlk.out]; unfold maxLen; omega
      case c4 => rw [Hlk.out]; omega
      case c5 => simp; omega
      rintro v1 w1 ho1 hb1 - - -
      have hs := OfW.step (by rw [← Hla.out]; exact hia) (by rw [← Hd.out]; exact ho1) ((hbl.alloc hbz _).trans hb1)
      have Hs := Lib.hid hs
      clear hs ho1
      go_wp2
      go_roundw
      case rel => exact ⟨i + 1, by omega, by go_num, Hs.out⟩
      case measure => simp [intOf]; omega
    · have hil : i = la := by omega
      have ca := hil
      subst hil
      have hfull : ws.take i = ws := List.take_of_length_le (by rw [Hla.out]; exact Nat.le_refl _)
      have ho := HO.out
      rw [hfull] at ho
      have Ho := Lib.hid ho
      have hrw := ho.rw' Hv.out.lt
      have Hrw := Lib.hid hrw
      have hrb := Lib.hid (keep_row hbl HR.out)
      have hfz := Lib.hid (box_row (Below.refl _ (wr.alloc (.cells #[.bool false, .slice none 0 0] 110))))
      clear hfull ho hrw
      go_wp2_with fail
      refine (intSetBits wr.heap.size 0 (.bool false) (.slice none 0 0) u3 ws _ (row_at hfz.out rfl) (row_at hfz.out rfl) (Hrw.out.below ((Below.refl _ _).alloc (Nat.le_refl _) _)) (by rw [← Hla.out]; omega)).mono ?_
      rintro _ w2 ⟨rfl, hw2⟩
      have hI := (setBits_fresh Ho.out Hv.out.lt hbz).1
      have hB2 := (setBits_fresh Ho.out Hv.out.lt hbz).2
      rw [← hw2] at hI hB2
      have HI := Lib.hid hI
      have HB2 := Lib.hid hB2
      obtain ⟨g, hg⟩ : ∃ g, g = wr.heap.size := ⟨_, rfl⟩
      rw [← hg] at HI hbz ⊢
      obtain ⟨v2, h21, h22, h23⟩ := HI.out
      have hS2 := h23.isS
      have hL2 : sLen v2 = nw (wv ws) := by rw [h23.len, cellsW_length, wds_length]
      have k0 := (row_at (i := 0) h22 rfl)
      have k1 := (row_at (i := 1) h22 rfl)
      have bx := (row_at (i := 0) (keep_row hB2 hrb.out) rfl).1
      have hBt := bthen hbl hB2
      have hBW := hab.trans (hBt.mono hWs)
      have HL2 := Lib.hid hL2
      clear hw2 hI hB2 hg h22 h23 hL2 ca
      cases b with
      | false =>
        go_wp2
        go_ret
        exact ⟨g, rfl, HI.out.mono hWs, hBW⟩
      | true =>
        go_wp2_with fail
        refine (intNeg_same g 0 false v2 w2 k0 k1 hS2).mono ?_
        rintro _ w3 ⟨rfl, nk, hw3⟩
        rw [HL2.out, and_pos] at hw3
        have h3 := HI.out.setNeg nk (decide (0 < wv ws))
        rw [← hw3] at h3
        have hBx : Below w.heap.size w w3 := by rw [hw3]; exact bset (undrewN' hBW) (Nat.le_trans hWs h21)
        have H3 := Lib.hid h3
        clear hw3 h3
        go_wp2
        go_ret
        exact ⟨g, rfl, H3.out.mono hWs, hBx⟩
end Go.Proofs.YtllhnjpnkmjopaaGreatDoor
namespace Go.Proofs.YtllhnjpnkmjopaaGreatDoor

theorem wdv_step (n i : Nat) : n / 18446744073709551616 ^ i = 18446744073709551616 * (n / 18446744073709551616 ^ (i + 1)) + wdg n i := by
  unfold wdg
  rw [Nat.pow_succ, ← Nat.div_div_eq_div_mul]
  omega
theorem two_word (i : Nat) : (2 : Nat) ^ i = 18446744073709551616 ^ (i / 64) * 2 ^ (i % 64) := by
  rw [show (18446744073709551616 : Nat) = 2 ^ 64 from rfl, ← Nat.pow_mul, ← Nat.pow_add, Nat.div_add_mod]
theorem word_split {s : Nat} (h : s ≤ 64) : 2 ^ (64 - s) * 2 ^ s = 18446744073709551616 := by
  rw [← Nat.pow_add, show 64 - s + s = 64 by omega]
theorem wdg_bit (n i : Nat) : wdg n (i / 64) / 2 ^ (i % 64) % 2 = n / 2 ^ i % 2 := by
  unfold wdg
  rw [two_word i, ← Nat.div_div_eq_div_mul]
  generalize n / 18446744073709551616 ^ (i / 64) = m
  have hs : i % 64 < 64 := Nat.mod_lt _ (by decide)
  have e := word_split (show i % 64 ≤ 64 by omega)
  have e2 : 2 ^ (64 - i % 64) = 2 * 2 ^ (63 - i % 64) := by rw [show 64 - i % 64 = 63 - i % 64 + 1 by omega, Nat.pow_succ, Nat.mul_comm]
  generalize hP : 2 ^ (i % 64) = P at *
  generalize 2 ^ (63 - i % 64) = Q at *
  generalize 2 ^ (64 - i % 64) = R at *
  subst e2
  have hP0 : 0 < P := by rw [← hP]; exact Nat.pow_pos (by decide)
  rw [← e, Nat.mul_comm (2 * Q) P, Nat.mod_mul_right_div_self, Nat.mod_mul_right_mod]
theorem wlow_zero {n : Nat} : ∀ j : Nat, n % 18446744073709551616 ^ j = 0 ↔ ∀ k, k < j → wdg n k = 0
  | 0 => by simp [Nat.mod_one]
  | j + 1 => by
    have ih := wlow_zero (n := n) j
    have hs := wmod_succ n j
    have hp := wpow_pos j
    constructor
    · intro h k hk
      rw [h] at hs
      have h1 : n % 18446744073709551616 ^ j = 0 := by omega
      have h2 : 18446744073709551616 ^ j * wdg n j = 0 := by omega
      rcases (by omega : k < j ∨ k = j) with hk' | rfl
      · exact ih.1 h1 k hk'
      · rcases Nat.mul_eq_zero.1 h2 with h | h
        · omega
        · exact h
    · intro h
      rw [hs, ih.2 (fun k hk => h k (by omega)), h j (by omega)]
      simp
theorem sticky_iff (n i : Nat) : n % 2 ^ i = 0 ↔ (∀ k, k < i / 64 → wdg n k = 0) ∧ wdg n (i / 64) % 2 ^ (i % 64) = 0 := by
  rw [two_word i, Nat.mod_mul, ← wlow_zero]
  have hs : i % 64 < 64 := Nat.mod_lt _ (by decide)
  have e := word_split (show i % 64 ≤ 64 by omega)
  have h1 : wdg n (i / 64) % 2 ^ (i % 64) = n / 18446744073709551616 ^ (i / 64) % 2 ^ (i % 64) := by
    unfold wdg
    rw [← e, Nat.mul_comm, Nat.mod_mul_right_mod]
  rw [h1]
  have hp := wpow_pos (i / 64)
  generalize n / 18446744073709551616 ^ (i / 64) % 2 ^ (i % 64) = c
  generalize n % 18446744073709551616 ^ (i / 64) = a
  generalize 18446744073709551616 ^ (i / 64) = B at *
  constructor
  · intro h
    have h1 : a = 0 := by omega
    have h2 : B * c = 0 := by omega
    exact ⟨h1, (Nat.mul_eq_zero.1 h2).resolve_left (by omega)⟩
  · rintro ⟨rfl, rfl⟩; simp
theorem wdg_shl_zero (n : Nat) {s : Nat} (_hs : s ≤ 64) : wdg (n * 2 ^ s) 0 = wdg n 0 * 2 ^ s % 18446744073709551616 := by
  rw [wdg_zero_eq, wdg_zero_eq, Nat.mod_mul_mod]
theorem div_shl (n i : Nat) {s : Nat} (hs : s ≤ 64) : n * 2 ^ s / 18446744073709551616 ^ (i + 1) = wdg n i / 2 ^ (64 - s) + n / 18446744073709551616 ^ (i + 1) * 2 ^ s := by
  have hB := wpow_pos i
  have e := word_split hs
  have h1 : n = n % 18446744073709551616 ^ i + 18446744073709551616 ^ i * (wdg n i + 18446744073709551616 * (n / 18446744073709551616 ^ (i + 1))) := by
    have := wdv_step n i
    rw [Nat.add_comm (wdg n i), ← this]
    exact (Nat.mod_add_div n _).symm
  have hl := Nat.mod_lt n hB
  have hS : 0 < 2 ^ s := Nat.pow_pos (by decide)
  have hR : 0 < 2 ^ (64 - s) := Nat.pow_pos (by decide)
  have h3 : n * 2 ^ s / 18446744073709551616 ^ i = n % 18446744073709551616 ^ i * 2 ^ s / 18446744073709551616 ^ i + (wdg n i + 18446744073709551616 * (n / 18446744073709551616 ^ (i + 1))) * 2 ^ s := by
    conv => lhs; rw [h1]
    rw [Nat.add_mul, Nat.mul_assoc, Nat.add_mul_div_left _ _ hB]
  have h4 : n % 18446744073709551616 ^ i * 2 ^ s / 18446744073709551616 ^ i < 2 ^ s := Nat.div_lt_of_lt_mul (Nat.mul_lt_mul_of_pos_right hl hS)
  rw [Nat.pow_succ, ← Nat.div_div_eq_div_mul, h3]
  rw [Nat.pow_succ] at *
  generalize n % 18446744073709551616 ^ i * 2 ^ s / 18446744073709551616 ^ i = c at *
  generalize wdg n i = d at *
  generalize n / (18446744073709551616 ^ i * 18446744073709551616) = m at *
  generalize 2 ^ s = S at *
  generalize 2 ^ (64 - s) = R at *
  have h5 : c + (d + 18446744073709551616 * m) * S = (c + d * S) + 18446744073709551616 * (m * S) := by rw [Nat.add_mul, Nat.mul_assoc]; omega
  rw [h5, Nat.add_mul_div_left _ _ (by decide)]
  congr 1
  rw [← e, Nat.mul_comm R S, ← Nat.div_div_eq_div_mul, Nat.mul_comm d S, Nat.add_mul_div_left _ _ hS, Nat.div_eq_of_lt h4, Nat.zero_add]
theorem wdg_shl_succ (n i : Nat) {s : Nat} (hs : s < 64) : wdg (n * 2 ^ s) (i + 1) = wdg n i / 2 ^ (64 - s) + wdg n (i + 1) * 2 ^ s % 18446744073709551616 := by
  have e := word_split (show s ≤ 64 by omega)
  have h1 := div_shl n i (show s ≤ 64 by omega)
  have hd := wdg_lt n i
  have hS : 0 < 2 ^ s := Nat.pow_pos (by decide)
  have hR : 0 < 2 ^ (64 - s) := Nat.pow_pos (by decide)
  have h2 : wdg n i / 2 ^ (64 - s) < 2 ^ s := Nat.div_lt_of_lt_mul (by rw [e]; exact hd)
  show n * 2 ^ s / 18446744073709551616 ^ (i + 1) % 18446744073709551616 = _
  rw [h1]
  have h3 : wdg n (i + 1) * 2 ^ s % 18446744073709551616 = n / 18446744073709551616 ^ (i + 1) * 2 ^ s % 18446744073709551616 := by
    unfold wdg; rw [Nat.mod_mul_mod]
  rw [h3]
  have h4 : n / 18446744073709551616 ^ (i + 1) * 2 ^ s % 18446744073709551616 = n / 18446744073709551616 ^ (i + 1) % 2 ^ (64 - s) * 2 ^ s := by
    rw [← e, Nat.mul_mod_mul_right]
  have h5 : n / 18446744073709551616 ^ (i + 1) % 2 ^ (64 - s) < 2 ^ (64 - s) := Nat.mod_lt _ hR
  rw [h4]
  generalize wdg n i / 2 ^ (64 - s) = c at *
  generalize hm : n / 18446744073709551616 ^ (i + 1) = m at *
  have h6 : (m % 2 ^ (64 - s) + 1) * 2 ^ s ≤ 2 ^ (64 - s) * 2 ^ s := Nat.mul_le_mul_right _ h5
  rw [e, Nat.add_mul, Nat.one_mul] at h6
  rw [Nat.add_mod, h4, Nat.mod_eq_of_lt (show c < 18446744073709551616 by omega), Nat.mod_eq_of_lt (by omega)]
theorem shl_or {c m s : Nat} (hs : s < 64) (hc : c < 2 ^ s) : (m * 2 ^ s % 18446744073709551616) ||| c = c + m * 2 ^ s % 18446744073709551616 := by
  have e := word_split (show s ≤ 64 by omega)
  have h4 : m * 2 ^ s % 18446744073709551616 = 2 ^ s * (m % 2 ^ (64 - s)) := by
    rw [← e, Nat.mul_mod_mul_right, Nat.mul_comm]
  rw [h4, ← Nat.two_pow_add_eq_or_of_lt hc, Nat.add_comm]
end Go.Proofs.YtllhnjpnkmjopaaGreatDoor
namespace Go.Proofs
open Go.Shelf
def Tryz.lays125_ren : Go.Shelf.Ren := ⟨fun | 125 => 205 | 128 => 224 | 129 => 225 | n => n, fun | 46 => 40 | 3 => 3 | 51 => 126 | 53 => 65 | 4 => 4 | 5 => 5 | 9 => 9 | n => n, fun | n => n⟩
theorem Tryz.lays125 : Go.Proofs.Lays.n125 Tryz.prog Tryz.lays125_ren := {
  mixed := by kernel_rfl
  f125 := Tryz.func205.trans (congrArg some (by kernel_rfl))
  f128 := Tryz.func224.trans (congrArg some (by kernel_rfl))
  f129 := Tryz.func225.trans (congrArg some (by kernel_rfl))
  t3 := Tryz.underlying3
  a3 := Tryz.isAgg3
  z3 := Tryz.sizeOf3
  v3 := Tryz.zeroValue3
  t4 := Tryz.underlying4
  a4 := Tryz.isAgg4
  z4 := Tryz.sizeOf4
  v4 := Tryz.zeroValue4
  t5 := Tryz.underlying5
  a5 := Tryz.isAgg5
  z5 := Tryz.sizeOf5
  v5 := Tryz.zeroValue5
  t9 := Tryz.underlying9
  a9 := Tryz.isAgg9
  z9 := Tryz.sizeOf9
  v9 := Tryz.zeroValue9
  t46 := Tryz.underlying40
  a46 := Tryz.isAgg40
  z46 := Tryz.sizeOf40
  v46 := Tryz.zeroValue40
  t51 := Tryz.underlying126
  a51 := Tryz.isAgg126
  z51 := Tryz.sizeOf126
  v51 := Tryz.zeroValue126
  t53 := Tryz.underlying65
  a53 := Tryz.isAgg65
  z53 := Tryz.sizeOf65
  v53 := Tryz.zeroValue65 }
theorem Tryz.bits_Len (x : Int) (w : World) (h0 : 0 ≤ x) (h1 : x ≤ 18446744073709551615) :
    Calls Tryz.prog 205 #[.int .u64 x] w fun e w' => e = .returned (.int .i64 (Lib.bitLen x.toNat)) ∧ w' = w := Any.bits_Len Tryz.lays125 x w h0 h1
def Tryz.lays134_ren : Go.Shelf.Ren := ⟨fun | 134 => 237 | 129 => 225 | n => n, fun | 53 => 65 | 3 => 3 | 4 => 4 | 46 => 40 | 5 => 5 | 9 => 9 | n => n, fun | n => n⟩
theorem Tryz.lays134 : Go.Proofs.Lays.n134 Tryz.prog Tryz.lays134_ren := {
  mixed := by kernel_rfl
  f129 := Tryz.func225.trans (congrArg some (by kernel_rfl))
  f134 := Tryz.func237.trans (congrArg some (by kernel_rfl))
  t3 := Tryz.underlying3
  a3 := Tryz.isAgg3
  z3 := Tryz.sizeOf3
  v3 := Tryz.zeroValue3
  t4 := Tryz.underlying4
  a4 := Tryz.isAgg4
  z4 := Tryz.sizeOf4
  v4 := Tryz.zeroValue4
  t5 := Tryz.underlying5
  a5 := Tryz.isAgg5
  z5 := Tryz.sizeOf5
  v5 := Tryz.zeroValue5
  t9 := Tryz.underlying9
  a9 := Tryz.isAgg9
  z9 := Tryz.sizeOf9
  v9 := Tryz.zeroValue9
  t46 := Tryz.underlying40
  a46 := Tryz.isAgg40
  z46 := Tryz.sizeOf40
  v46 := Tryz.zeroValue40
  t53 := Tryz.underlying65
  a53 := Tryz.isAgg65
  z53 := Tryz.sizeOf65
  v53 := Tryz.zeroValue65 }
theorem Tryz.bits_LeadingZeros64 (x : Int) (w : World) (h0 : 0 ≤ x) (h1 : x ≤ 18446744073709551615) :
    Calls Tryz.prog 237 #[.int .u64 x] w fun e w' => e = .returned (.int .i64 (64 - (Lib.bitLen x.toNat : Int))) ∧ w' = w := Any.bits_LeadingZeros64 Tryz.lays134 x w h0 h1
def Tryz.lays130_ren : Go.Shelf.Ren := ⟨fun | 130 => 206 | 125 => 205 | 128 => 224 | 129 => 225 | n => n, fun | 46 => 40 | 3 => 3 | 51 => 126 | 53 => 65 | 4 => 4 | 5 => 5 | 9 => 9 | n => n, fun | n => n⟩
theorem Tryz.lays130 : Go.Proofs.Lays.n130 Tryz.prog Tryz.lays130_ren := {
  mixed := by kernel_rfl
  f125 := Tryz.func205.trans (congrArg some (by kernel_rfl))
  f128 := Tryz.func224.trans (congrArg some (by kernel_rfl))
  f129 := Tryz.func225.trans (congrArg some (by kernel_rfl))
  f130 := Tryz.func206.trans (congrArg some (by kernel_rfl))
  t3 := Tryz.underlying3
  a3 := Tryz.isAgg3
  z3 := Tryz.sizeOf3
  v3 := Tryz.zeroValue3
  t4 := Tryz.underlying4
  a4 := Tryz.isAgg4
  z4 := Tryz.sizeOf4
  v4 := Tryz.zeroValue4
  t5 := Tryz.underlying5
  a5 := Tryz.isAgg5
  z5 := Tryz.sizeOf5
  v5 := Tryz.zeroValue5
  t9 := Tryz.underlying9
  a9 := Tryz.isAgg9
  z9 := Tryz.sizeOf9
  v9 := Tryz.zeroValue9
  t46 := Tryz.underlying40
  a46 := Tryz.isAgg40
  z46 := Tryz.sizeOf40
  v46 := Tryz.zeroValue40
  t51 := Tryz.underlying126
  a51 := Tryz.isAgg126
  z51 := Tryz.sizeOf126
  v51 := Tryz.zeroValue126
  t53 := Tryz.underlying65
  a53 := Tryz.isAgg65
  z53 := Tryz.sizeOf65
  v53 := Tryz.zeroValue65 }
theorem Tryz.bits_LeadingZeros (x : Int) (w : World) (h0 : 0 ≤ x) (h1 : x ≤ 18446744073709551615) :
    Calls Tryz.prog 206 #[.int .u64 x] w fun e w' => e = .returned (.int .i64 (64 - (Lib.bitLen x.toNat : Int))) ∧ w' = w := Any.bits_LeadingZeros Tryz.lays130 x w h0 h1
open Go.RowKit Go.Lib in
def Tryz.lays212_ren : Go.Shelf.Ren := ⟨fun | 212 => 200 | 263 => 221 | 264 => 222 | n => n, fun | 46 => 40 | 51 => 126 | 146 => 220 | 53 => 65 | 148 => 222 | n => n, fun | n => n⟩
theorem Tryz.lays212 : Go.Proofs.Lays.n212 Tryz.prog Tryz.lays212_ren := {
  mixed := by kernel_rfl
  f212 := Tryz.func200.trans (congrArg some (by kernel_rfl))
  f263 := Tryz.func221.trans (congrArg some (by kernel_rfl))
  f264 := Tryz.func222.trans (congrArg some (by kernel_rfl))
  t46 := Tryz.underlying40
  a46 := Tryz.isAgg40
  z46 := Tryz.sizeOf40
  v46 := Tryz.zeroValue40
  t51 := Tryz.underlying126
  a51 := Tryz.isAgg126
  z51 := Tryz.sizeOf126
  v51 := Tryz.zeroValue126
  t53 := Tryz.underlying65
  a53 := Tryz.isAgg65
  z53 := Tryz.sizeOf65
  v53 := Tryz.zeroValue65
  t146 := Tryz.underlying220
  a146 := Tryz.isAgg220
  z146 := Tryz.sizeOf220
  v146 := Tryz.zeroValue220
  t148 := Tryz.underlying222
  a148 := Tryz.isAgg222
  z148 := Tryz.sizeOf222
  v148 := Tryz.zeroValue222 }
open Go.RowKit Go.Lib in
theorem Tryz.bits_Mul (x y : Nat) (hx : x < 18446744073709551616) (hy : y < 18446744073709551616) (w : World) :
    Calls Tryz.prog 200 #[.int .u64 x, .int .u64 y] w fun e w' => e = .returned (.tuple #[.int .u64 ((x * y / 18446744073709551616 : Nat) : Int), .int .u64 ((x * y % 18446744073709551616 : Nat) : Int)]) ∧ w' = w := Any.bits_Mul Tryz.lays212 x y hx hy w
end Go.Proofs
namespace Go.Proofs.YtllhnjpnkmjopaaGreatDoor
open Go.RowKit

theorem bitLenAux_eq : ∀ (f x : Nat), x < 2 ^ f → Lib.bitLenAux f x = bl x
  | 0, x, h => by
    have : x = 0 := by omega
    subst this; rfl
  | f + 1, x, h => by
    unfold Lib.bitLenAux
    split
    · rename_i h0; subst h0; rfl
    · rename_i h0
      rw [bitLenAux_eq f (x / 2) (by rw [Nat.pow_succ] at h; omega), ← bl_half (show 0 < x by omega)]; omega
theorem bitLen_eq {x : Nat} (h : x < 18446744073709551616) : Lib.bitLen x = bl x := bitLenAux_eq 64 x h
theorem bl_le64 {x : Nat} (h : x < 18446744073709551616) : bl x ≤ 64 := bl_le h
theorem lz64 (x : Nat) (w : World) (h : x < 18446744073709551616) :
    Calls Tryz.prog 237 #[.int .u64 x] w fun e w' => e = .returned (.int .i64 ((64 - bl x : Nat) : Int)) ∧ w = w' := by
  refine (Tryz.bits_LeadingZeros64 (x : Int) w (by omega) (by omega)).mono ?_
  rintro _ _ ⟨rfl, rfl⟩
  have := bl_le64 h
  refine ⟨?_, rfl⟩
  rw [Int.toNat_natCast, bitLen_eq h]
  exact congrArg (fun z => Ending.returned (.int .i64 z)) (by omega)
set_option maxRecDepth 100000 in
theorem setUint64_nil (d : Nat) (w : World) (h0 : 0 < d) (hd : d < 18446744073709551616) :
    Calls Tryz.prog 107 #[.slice none 0 0, .int .u64 d] w fun e w' => ∃ r, e = .returned r ∧ Own w' w.heap.size 116 r (cellsW [d]) ∧ Below w.heap.size w w' := by
  have H0 := Lib.hid h0
  have HD := Lib.hid hd
  clear h0 hd
  go_enter Tryz.func107, Tryz.ntmps107
  go_wp2_with fail
  refine (setWord_nil d w H0.out HD.out).mono ?_
  rintro _ w1 ⟨r, rfl, ho, hb⟩
  have hS := ho.isS
  go_wp2
  go_ret
  exact ⟨_, rfl, ho, hb⟩

theorem fbone {W : World} (o : Obj) : Below W.heap.size W (W.alloc o) := (Below.refl _ _).alloc (Nat.le_refl _) _
theorem get_lt {w : World} {k : Nat} {o : Obj} (h : w.heap[k]? = some o) : k < w.heap.size := by
  obtain ⟨h, _⟩ := Array.getElem?_eq_some_iff.1 h
  exact h
theorem RW.dropW {w : World} {v : Value} {ws : List Nat} {k : Nat} (h : RW w v ws) (hk : k ≤ ws.length) : RW w (subS v k ws.length) (ws.drop k) := by
  refine ⟨?_, fun d hd => h.lt d (List.mem_of_mem_drop hd)⟩
  have := h.ri.sub (l := k) (n := ws.length) hk (by rw [ints_length]; exact Nat.le_refl _)
  rw [List.take_of_length_le (by rw [ints_length]; exact Nat.le_refl _)] at this
  unfold ints at this ⊢
  rw [List.map_drop]
  exact this
theorem cellsW_zeros (n : Nat) : List.replicate n (Value.int .u64 0) = cellsW (List.replicate n 0) := by
  unfold cellsW; rw [List.map_replicate]; rfl
theorem bl_or {a b : Nat} (h : b ≤ a) : bl (a ||| b) = bl a := by
  refine Nat.le_antisymm (bl_le (Nat.or_lt_two_pow (lt_bl a) (Nat.lt_of_le_of_lt h (lt_bl a)))) (bl_mono Nat.left_le_or)
theorem or_lt64 {a b : Nat} (ha : a < 18446744073709551616) (hb : b < 18446744073709551616) : a ||| b < 18446744073709551616 := Nat.or_lt_two_pow (n := 64) ha hb
theorem bl_words {n : Nat} (h : 0 < n) : bl n = 64 * (nw n - 1) + bl (wdg n (nw n - 1)) := by
  have hp := nw_pos h
  have h1 := wmod_succ n (nw n - 1)
  rw [show nw n - 1 + 1 = nw n by omega, wmod_nw (Nat.le_refl _)] at h1
  have e : (18446744073709551616 : Nat) ^ (nw n - 1) = 2 ^ (64 * (nw n - 1)) := by rw [show (18446744073709551616 : Nat) = 2 ^ 64 from rfl, ← Nat.pow_mul]
  rw [e] at h1
  exact bl_shift (Nat.pos_of_ne_zero (wdg_last h)) h1
theorem smear {t q t' k : Nat} (ht : t < 18446744073709551616) (hq : q = t / k) (ht' : t' = t ||| q) : bits .or .u64 (t : Int) (q : Int) = (t' : Int) ∧ t' < 18446744073709551616 ∧ bl t' = bl t ∧ (t : Int) / (k : Int) = (q : Int) := by
  have hqt : q ≤ t := by rw [hq]; exact Nat.div_le_self _ _
  refine ⟨by rw [ht']; exact bits_or_u64_nat t q ht (by omega), by rw [ht']; exact or_lt64 ht (by omega), by rw [ht']; exact bl_or hqt, by rw [hq]; simp⟩
set_option maxRecDepth 100000 in
set_option maxHeartbeats 800000 in
theorem bitLen_any (v : Value) (M : Nat) (w : World) (hv : RW w v (wds M)) (hl : nw M ≤ 1000000000) :
    Calls Tryz.prog 176 #[v] w fun e w' => e = .returned (.int .i64 (bl M : Nat)) ∧ w = w' := by
  have hS := hv.isS
  have hL := hv.len
  rw [wds_length] at hL
  rcases Nat.eq_zero_or_pos M with h0 | h0
  · subst h0
    have hL0 : sLen v = 0 := hL
    clear hL
    go_enter Tryz.func176, Tryz.ntmps176
    go_wp2
    go_ret
    exact ⟨rfl, rfl⟩
  · have hp := nw_pos h0
    have e := bl_words h0
    have hc := hv.cell (nw M - 1) (by rw [wds_length]; omega)
    rw [wds_getD] at hc
    have ht := wdg_lt M (nw M - 1)
    obtain ⟨j, hj⟩ : ∃ j, nw M = j + 1 := ⟨nw M - 1, by omega⟩
    rw [hj, Nat.add_sub_cancel] at e hc ht
    rw [hj] at hL hl
    obtain ⟨t, htt⟩ : ∃ t, t = wdg M j := ⟨_, rfl⟩
    rw [← htt] at e hc ht
    obtain ⟨q1, hq1⟩ : ∃ q, q = t / 2 := ⟨_, rfl⟩
    obtain ⟨t1, ht1⟩ : ∃ u, u = t ||| q1 := ⟨_, rfl⟩
    obtain ⟨o1, b1, l1, d1'⟩ := smear ht hq1 ht1
    have d1 : (t : Int) / 2 = (q1 : Int) := d1'
    obtain ⟨q2, hq2⟩ : ∃ q, q = t1 / 4 := ⟨_, rfl⟩
    obtain ⟨t2, ht2⟩ : ∃ u, u = t1 ||| q2 := ⟨_, rfl⟩
    obtain ⟨o2, b2, l2, d2'⟩ := smear b1 hq2 ht2
    have d2 : (t1 : Int) / 4 = (q2 : Int) := d2'
    obtain ⟨q3, hq3⟩ : ∃ q, q = t2 / 16 := ⟨_, rfl⟩
    obtain ⟨t3, ht3⟩ : ∃ u, u = t2 ||| q3 := ⟨_, rfl⟩
    obtain ⟨o3, b3, l3, d3'⟩ := smear b2 hq3 ht3
    have d3 : (t2 : Int) / 16 = (q3 : Int) := d3'
    obtain ⟨q4, hq4⟩ : ∃ q, q = t3 / 256 := ⟨_, rfl⟩
    obtain ⟨t4, ht4⟩ : ∃ u, u = t3 ||| q4 := ⟨_, rfl⟩
    obtain ⟨o4, b4, l4, d4'⟩ := smear b3 hq4 ht4
    have d4 : (t3 : Int) / 256 = (q4 : Int) := d4'
    obtain ⟨q5, hq5⟩ : ∃ q, q = t4 / 65536 := ⟨_, rfl⟩
    obtain ⟨t5, ht5⟩ : ∃ u, u = t4 ||| q5 := ⟨_, rfl⟩
    obtain ⟨o5, b5, l5, d5'⟩ := smear b4 hq5 ht5
    have d5 : (t4 : Int) / 65536 = (q5 : Int) := d5'
    obtain ⟨q6, hq6⟩ : ∃ q, q = t5 / 4294967296 := ⟨_, rfl⟩
    obtain ⟨q6', hq6'⟩ : ∃ q, q = t5 / 65536 := ⟨_, rfl⟩
    obtain ⟨t6, ht6⟩ : ∃ u, u = t5 ||| q6 := ⟨_, rfl⟩
    obtain ⟨o6, b6, l6, -⟩ := smear b5 hq6 ht6
    have d6 : (t5 : Int) / 65536 = (q6' : Int) := by rw [hq6']; simp
    have d6' : (q6' : Int) / 65536 = (q6 : Int) := by rw [hq6, hq6']; omega
    have E : Hid (bl M = 64 * j + bl t6) := Lib.hid (by rw [e, l6, l5, l4, l3, l2, l1])
    have B6 := Lib.hid b6
    clear hj htt hq1 ht1 hq2 ht2 hq3 ht3 hq4 ht4 hq5 ht5 hq6 hq6' ht6 l1 l2 l3 l4 l5 l6 e hv h0 hp d1' d2' d3' d4' d5'
    go_enter Tryz.func176, Tryz.ntmps176
    go_wp2_with fail
    refine (Tryz.bits_Len (t6 : Int) w (by omega) (by have := B6.out; omega)).mono ?_
    rintro _ _ ⟨rfl, rfl⟩
    rw [Int.toNat_natCast, bitLen_eq B6.out]
    have hb := bl_le64 B6.out
    obtain ⟨l, hl'⟩ : ∃ l, l = bl t6 := ⟨_, rfl⟩
    rw [← hl'] at hb E ⊢
    clear hl'
    go_wp2
    go_ret
    exact ⟨congrArg (fun z => Ending.returned (.int .i64 z)) (by rw [E.out]; omega), rfl⟩
set_option maxRecDepth 100000 in
theorem intBitLen (b o : Nat) (v : Value) (M : Nat) (w : World) (hc : w.cell? ⟨b, o + 1, none⟩ = some v) (hv : RW w v (wds M)) (hl : nw M ≤ 1000000000) :
    Calls Tryz.prog 142 #[.pointer (some ⟨b, o, none⟩)] w fun e w' => e = .returned (.int .i64 (bl M : Nat)) ∧ w = w' := by
  have hS := hv.isS
  have HV := Lib.hid hv
  clear hv
  go_enter Tryz.func142, Tryz.ntmps142
  go_wp2_with fail
  refine (bitLen_any v M w HV.out hl).mono ?_
  rintro _ _ ⟨rfl, rfl⟩
  go_wp2
  go_ret
  exact ⟨rfl, rfl⟩
set_option maxRecDepth 100000 in
theorem nlz_any (x : Nat) (w : World) (h : x < 18446744073709551616) :
    Calls Tryz.prog 177 #[.int .u64 x] w fun e w' => e = .returned (.int .u64 ((64 - bl x : Nat) : Int)) ∧ w = w' := by
  have hb := bl_le64 h
  have H := Lib.hid h
  have E : Hid ((64 : Int) - (Lib.bitLen x : Nat) = ((64 - bl x : Nat) : Int)) := Lib.hid (by rw [bitLen_eq h]; omega)
  obtain ⟨s, hs⟩ : ∃ s, s = 64 - bl x := ⟨_, rfl⟩
  have hs64 : s ≤ 64 := by omega
  rw [← hs] at E ⊢
  clear h hs hb
  go_enter Tryz.func177, Tryz.ntmps177
  go_wp2_with fail
  refine (Tryz.bits_LeadingZeros (x : Int) w (by omega) (by have := H.out; omega)).mono ?_
  rintro _ _ ⟨rfl, rfl⟩
  rw [Int.toNat_natCast, E.out]
  go_wp2
  go_ret
  exact ⟨rfl, rfl⟩
end Go.Proofs.YtllhnjpnkmjopaaGreatDoor
