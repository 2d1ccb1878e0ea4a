/-
Texts of this proof, joined: HoistP InD InE FlA Shelf FlB FlC FlD FlE FlF. No condition.
-/
import Derived.Test.YtgclooabjilniaaDoorK01
import Derived.Test.YtgclooabjilniaaDoorK03
import Derived.Test.YtgclooabjilniaaDoorK04
import Derived.Lib.Builder
import Derived.Outline
import Derived.Shelf.Small.Bits
import Derived.Shelf.Strconv.Itoa0
import Derived.Test.YtgclooabjilniaaDoorProg
/-
A region that draws its order, whose operations are told in three lists: those that look at no world, those that read till the first call or store, and the rest, which is in a forced order: one walk in that order serves every order. No condition.
-/
namespace Go.Proofs.YtgclooabjilniaaDoor
section
variable {P : Program} {ops : Array Oper} {C : World → Prop} {Q : Exit → Act → World → Prop} {md : Region.Mode} {hd : Nat → Bool}

def pickOps (ops : Array Oper) (is : List Nat) : List Oper := is.flatMap fun i => (ops[i]?).toList
theorem pickOps_cons {i : Nat} {is : List Nat} {o : Oper} (h : ops[i]? = some o) : pickOps ops (i :: is) = o :: pickOps ops is := by simp [pickOps, h]

/-- The rest of a region in a forced order. -/
def tailBP (md : Region.Mode) (ops : Array Oper) : List Nat → Array Bool → Bool
  | [], listed => (Region.ready md ops listed).isEmpty
  | k :: l, listed =>
    (ops[k]?).isSome && ((Region.ready md ops listed == [k]) || (((ops[k]?).map plainOp).getD false && (Region.ready md ops listed).contains k && Region.free md ops listed k)) &&
      tailBP md ops l (listed.setIfInBounds k true)

theorem wpAny_tailP (hsel : Region.noSelect ops = true) (hQ : Calm Q) : ∀ (l : List Nat) (listed : Array Bool) (a : Act) (w : World),
    tailBP md ops l listed = true → wpList P ops Q (pickOps ops l) a w → wpAny P md ops Q l.length listed a w
  | [], listed, a, w, hB, h => ⟨by simpa [tailBP] using hB, h⟩
  | k :: l, listed, a, w, hB, h => by
    simp only [tailBP, Bool.and_eq_true, Bool.or_eq_true] at hB
    obtain ⟨⟨hs, hB1⟩, hB'⟩ := hB
    obtain ⟨o, h0⟩ := Option.isSome_iff_exists.1 hs
    rw [pickOps_cons h0] at h
    rcases hB1 with hr | ⟨⟨hp, hc⟩, hf⟩
    · have hr' : Region.ready md ops listed = [k] := by simpa using hr
      refine wpAny_all hr' (by simp) fun i hi => ?_
      have : i = k := by simpa using hi
      subst this
      unfold wpOp
      simp only [h0]
      unfold wpList at h
      split
      · rename_i hw
        rw [if_pos hw] at h
        exact h.imp (Oper.wp_mono fun a' w' h' => wpAny_tailP hsel hQ l _ a' w' hB' h') id
      · rename_i hw
        rw [if_neg hw] at h
        exact wpAny_tailP hsel hQ l _ _ w hB' h
    · have hpl : plainOp o = true := by simpa [h0] using hp
      unfold wpList at h
      by_cases hw : Region.wanted o (yielded ops a.tmps) = true
      · rw [if_pos hw] at h
        rcases h with h | ⟨_, a', w', h⟩
        · rcases plainOp_run (P := P) hpl a.eval w with ⟨v, hv⟩ | ⟨s, hs⟩
          · unfold Oper.wp at h
            rw [hv w] at h
            exact wpAny_first h0 (Region.noSelect_spec hsel) (fun c a w h => (hQ.1 c _ w h).elim) l.length listed a w (Region.free_spec h0 hf) (by simpa using hc) (.inl ⟨hw, hv⟩)
              (wpAny_tailP hsel hQ l _ _ w hB' h)
          · unfold Oper.wp at h
            rw [hs] at h
            exact h.elim
        · exact (hQ.2 _ _ h).elim
      · rw [if_neg hw] at h
        exact wpAny_first h0 (Region.noSelect_spec hsel) (fun c a w h => (hQ.1 c _ w h).elim) l.length listed a w (Region.free_spec h0 hf) (by simpa using hc) (.inr ⟨by simpa using hw, rfl⟩)
          (wpAny_tailP hsel hQ l _ _ w hB' h)

/-- Operations that hand back a value or halt. -/
def flatOp (o : Oper) : Bool :=
  match o.op with
  | .move _ | .assign _ | .extract _ _ | .nilCheck _ | .fieldAddr _ _ _ => true
  | _ => false
theorem value_of_then {α : Type} {s : Result α} {f : α → Value} {n : Next} {w' : World} (h : (s.andThen fun x w => Result.ok (Next.value (f x)) w) = .ok n w') : ∃ u, n = .value u := by
  cases s with
  | ok x w1 => simp [Result.andThen] at h; exact ⟨_, h.1.symm⟩
  | halt c w1 => simp [Result.andThen] at h
theorem flatOp_value {o : Oper} (h : flatOp o = true) (ρ : Operand → Value) (w w' : World) (n : Next) (hr : (execOp ρ o).run P w = .ok n w') : ∃ u, n = .value u := by
  obtain ⟨dst, op, type, pos, after, guard⟩ := o
  unfold flatOp at h
  split at h
  · rename_i x heq; simp only at heq; subst heq; cases hr; exact ⟨_, rfl⟩
  · rename_i x heq; simp only at heq; subst heq; cases hr; exact ⟨_, rfl⟩
  · rename_i x i heq; simp only at heq; subst heq
    simp only [execOp, Sem.run_bind, Sem.run_pure] at hr
    exact value_of_then (f := id) hr
  · rename_i x heq; simp only at heq; subst heq
    simp only [execOp] at hr
    split at hr
    · cases hr
    · cases hr
    · cases hr
    · split at hr
      · cases hr
      · simp only [Sem.run_bind] at hr
        cases hb : Sem.run P program w with
        | halt c w1 => rw [hb] at hr; cases hr
        | ok p w1 =>
          rw [hb] at hr
          simp only [Result.andThen_ok] at hr
          generalize Sem.run P (nilAhead _ _ _ _) w1 = R at hr
          cases R with
          | halt c w2 => cases hr
          | ok b w2 =>
            simp only [Result.andThen_ok] at hr
            split at hr
            · cases hr
            · cases hr; exact ⟨_, rfl⟩
      · cases hr; exact ⟨_, rfl⟩
    · cases hr; exact ⟨_, rfl⟩
  · rename_i x y z heq; simp only at heq; subst heq
    simp only [execOp, Sem.run_bind, Sem.run_pure] at hr
    exact value_of_then (f := id) hr
  · cases h

theorem yields_of_flat {o : Oper} {v : Value} {a : Act} (hf : flatOp o = true) (hy : YieldsIn P ops (fun _ => True) o v a) : Yields P ops o v a := by
  rcases hy with ⟨hw, hv⟩ | ⟨hw, hv⟩
  · refine .inl ⟨hw, fun w => ?_⟩
    have h1 := hv w trivial
    unfold Oper.quietAt at h1
    cases hr : (execOp a.eval o).run P w with
    | halt c w' => rw [hr] at h1; exact h1.elim
    | ok n w' =>
      obtain ⟨u, rfl⟩ := flatOp_value hf _ _ _ _ hr
      rw [hr] at h1
      obtain ⟨h2, h3⟩ := h1
      rw [h2, h3]
  · exact .inr ⟨hw, hv⟩
/-- Operations that look at no world, then a forced order. -/
def tailGP (md : Region.Mode) (ops : Array Oper) (ts : List Nat) : List Nat → Array Bool → Bool
  | [], listed => tailBP md ops ts listed
  | k :: l, listed => (ops[k]?).isSome && (Region.ready md ops listed).contains k && Region.free md ops listed k && ((ops[k]?).map flatOp).getD false && tailGP md ops ts l (listed.setIfInBounds k true)
theorem wpAny_tailG (hsel : Region.noSelect ops = true) (hQ : Calm Q) (ts : List Nat) {w : World} : ∀ (l : List Nat) (listed : Array Bool) (a : Act), tailGP md ops ts l listed = true →
    wpQuiet P ops (fun _ => True) (fun a' => wpList P ops Q (pickOps ops ts) a' w) (pickOps ops l) a → wpAny P md ops Q (l.length + ts.length) listed a w
  | [], listed, a, hB, h => by
    simp only [List.length_nil, Nat.zero_add]
    exact wpAny_tailP hsel hQ ts listed a w hB h
  | k :: l, listed, a, hB, h => by
    simp only [tailGP, Bool.and_eq_true] at hB
    obtain ⟨⟨⟨⟨hs1, hr⟩, hf⟩, hfl⟩, hB'⟩ := hB
    obtain ⟨o, h0⟩ := Option.isSome_iff_exists.1 hs1
    rw [pickOps_cons h0] at h
    have hst : qOp P ops (fun _ => True) k (wpQuiet P ops (fun _ => True) (fun a' => wpList P ops Q (pickOps ops ts) a' w) (pickOps ops l)) a := by unfold qOp; simp only [h0]; exact h
    obtain ⟨v, hy, hK⟩ := yieldsIn_of_qOp h0 hst
    have hfl' : flatOp o = true := by simpa [h0] using hfl
    rw [List.length_cons, Nat.add_right_comm]
    exact wpAny_first h0 (Region.noSelect_spec hsel) (fun c a w h => (hQ.1 c _ w h).elim) _ listed a w (Region.free_spec h0 hf) (by simpa using hr) (yields_of_flat hfl' hy)
      (wpAny_tailG hsel hQ ts l _ _ hB' hK)

/-- Till one of the operations outside of the head has come up: the world is one of the class. -/
def wpAnyMP (P : Program) (md : Region.Mode) (ops : Array Oper) (C : World → Prop) (hd : Nat → Bool) (Q : Exit → Act → World → Prop) : Nat → Array Bool → Act → Prop
  | 0, listed, a => Region.ready md ops listed = [] ∧ ∀ w, C w → Q .normal a w
  | fuel + 1, listed, a =>
    (Region.ready md ops listed = [] → ∀ w, C w → Q .normal a w) ∧
    ∀ i ∈ Region.ready md ops listed,
      (hd i = true → qOp P ops C i (wpAnyMP P md ops C hd Q fuel (listed.setIfInBounds i true)) a) ∧
      (hd i = false → ∀ w, C w → wpOp P ops Q i (wpAny P md ops Q fuel (listed.setIfInBounds i true)) a w)

theorem wpAny_of_MP : ∀ (fuel : Nat) (listed : Array Bool) (a : Act) (w : World), C w → wpAnyMP P md ops C hd Q fuel listed a → wpAny P md ops Q fuel listed a w
  | 0, _, _, w, hw, h => ⟨h.1, h.2 w hw⟩
  | fuel + 1, _, _, w, hw, h => ⟨fun h0 => h.1 h0 w hw, fun i hi => by
      cases hin : hd i with
      | true => exact wpOp_of_qOp hw (fun a' w' hw' => wpAny_of_MP fuel _ a' w' hw') ((h.2 i hi).1 hin)
      | false => exact (h.2 i hi).2 hin w hw⟩

def waitsBP (md : Region.Mode) (ops : Array Oper) (hd : Nat → Bool) (k : Nat) (listed : Array Bool) (D : Nat → Bool) : Bool :=
  D k && (List.range ops.size).all fun j => (hd j || D j) && (!D j || (!listed.getD j true && (j == k || ((ops[j]?).map (·.after.any fun e => Region.binds md e && D e.on && decide (e.on < ops.size))).getD false)))
structure WaitsP (md : Region.Mode) (ops : Array Oper) (hd : Nat → Bool) (k : Nat) (D : Nat → Bool) : Prop where
  late : ∀ j, j < ops.size → hd j = false → D j = true
  back : ∀ j oj, ops[j]? = some oj → D j = true → j ≠ k → ∃ e ∈ oj.after, Region.binds md e = true ∧ D e.on = true ∧ e.on < ops.size

theorem wpAnyMP_first {k : Nat} {ok : Oper} {v : Value} {D : Nat → Bool} (hk : ops[k]? = some ok) (hkn : hd k = true) (hsel : ∀ (j : Nat) (o : Oper) cs b, ops[j]? = some o → o.op ≠ .select cs b) (hD : WaitsP md ops hd k D) :
    ∀ (fuel : Nat) (listed : Array Bool) (a : Act),
      (∀ j oj, ops[j]? = some oj → j ≠ k → listed.getD j true = false → (∀ e ∈ oj.after, Region.binds md e = true → e.on ≠ k) → ok.apart ops oj = true) →
      (∀ j, j < ops.size → D j = true → listed.getD j true = false) →
      k ∈ Region.ready md ops listed → YieldsIn P ops C ok v a →
      wpAnyMP P md ops C hd Q fuel (listed.setIfInBounds k true) (a.put ok.dst v) → wpAnyMP P md ops C hd Q (fuel + 1) listed a := by
  intro fuel
  induction fuel with
  | zero =>
    intro listed a _ _ hr hy H
    refine ⟨fun h => (by rw [h] at hr; cases hr), fun j hj => ?_⟩
    by_cases hjk : j = k
    · subst hjk; exact ⟨fun _ => hy.qOp hk H, fun h => by rw [hkn] at h; cases h⟩
    · have := ready_mono hj hjk
      rw [H.1] at this
      cases this
  | succ fuel ih =>
    intro listed a hfree hun hr hy H
    refine ⟨fun h => (by rw [h] at hr; cases hr), fun j hj => ?_⟩
    by_cases hjk : j = k
    · subst hjk; exact ⟨fun _ => hy.qOp hk H, fun h => by rw [hkn] at h; cases h⟩
    · obtain ⟨hjun, oj, hoj, hall⟩ := mem_ready.1 hj
      have hjs : j < ops.size := (Array.getElem?_eq_some_iff.1 hoj).1
      have hjD : D j ≠ true := fun hd => by
        obtain ⟨e, he, hb, hde, hes⟩ := hD.back j oj hoj hd hjk
        have h1 := hall e he hb
        have h0 := hun e.on hes hde
        rcases Nat.lt_or_ge e.on listed.size with h' | h'
        · simp [h'] at h0 h1; rw [h0] at h1; cases h1
        · simp [Array.getElem?_eq_none h'] at h1
      have hjn : hd j = true := by
        cases h : hd j with
        | true => rfl
        | false => exact absurd (hD.late j hjs h) hjD
      refine ⟨fun _ => ?_, fun h => by rw [hjn] at h; cases h⟩
      have h1 := (H.2 j (ready_mono hj hjk)).1 hjn
      have hnot : ∀ e ∈ oj.after, Region.binds md e = true → e.on ≠ k := fun e he hb heq => by
        have h1 := hall e he hb
        have h0 := (mem_ready.1 hr).1
        rw [heq] at h1
        rcases Nat.lt_or_ge k listed.size with h' | h'
        · simp [h'] at h0 h1; rw [h0] at h1; cases h1
        · simp [Array.getElem?_eq_none h'] at h1
      have h2 := qOp_put hoj (hfree j oj hoj hjk hjun hnot) (fun cs b => hsel k ok cs b hk) (fun cs b => hsel j oj cs b hoj) hy h1
      refine qOp_mono (fun a' h3 => ih (listed.setIfInBounds j true) a' ?_ ?_ (ready_mono hr (Ne.symm hjk)) h3.1 ?_) h2
      · intro i oi hi hik hiun hno
        refine hfree i oi hi hik ?_ hno
        by_cases hji : j = i
        · subst hji; exact hjun
        · rw [getD_set_ne true hji] at hiun; exact hiun
      · intro i his hd
        have : j ≠ i := fun e => hjD (e ▸ hd)
        rw [getD_set_ne true this]; exact hun i his hd
      · rw [Array.setIfInBounds_comm _ _ hjk]
        exact h3.2

def headBP (md : Region.Mode) (ops : Array Oper) (hd : Nat → Bool) (gs ts : List Nat) : List Nat → Array Bool → Bool
  | [], listed => ((List.range ops.size).all fun i => !hd i || listed.getD i false) && tailGP md ops ts gs listed
  | k :: l, listed =>
    (ops[k]?).isSome && hd k && (Region.ready md ops listed).contains k && Region.free md ops listed k && waitsBP md ops hd k listed (fun j => (desc md ops k).getD j false) && headBP md ops hd gs ts l (listed.setIfInBounds k true)

theorem wpAnyMP_head (hsel : Region.noSelect ops = true) (hQ : Calm Q) {w0 : World} (hw0 : C w0) (gs ts : List Nat) : ∀ (l : List Nat) (listed : Array Bool) (a : Act),
    headBP md ops hd gs ts l listed = true → wpQuiet P ops C (fun a' => ∀ w, C w → wpQuiet P ops (fun _ => True) (fun a3 => wpList P ops Q (pickOps ops ts) a3 w) (pickOps ops gs) a') (pickOps ops l) a → wpAnyMP P md ops C hd Q (l.length + (gs.length + ts.length)) listed a
  | [], listed, a, hB, h => by
    simp only [headBP, Bool.and_eq_true, List.all_eq_true, List.mem_range, Bool.or_eq_true, Bool.not_eq_true'] at hB
    obtain ⟨hli, ht⟩ := hB
    have key : ∀ w, C w → wpAny P md ops Q (gs.length + ts.length) listed a w := fun w hw => wpAny_tailG hsel hQ ts gs listed a ht (h w hw)
    simp only [List.length_nil, Nat.zero_add]
    cases hf : gs.length + ts.length with
    | zero => rw [hf] at key; exact ⟨(key w0 hw0).1, fun w hw => (key w hw).2⟩
    | succ f =>
      rw [hf] at key
      refine ⟨fun h0 w hw => (key w hw).1 h0, fun i hi => ⟨fun hik => ?_, fun _ w hw => (key w hw).2 i hi⟩⟩
      exfalso
      obtain ⟨hr, oj, hoj, _⟩ := mem_ready.1 hi
      have hs : i < ops.size := (Array.getElem?_eq_some_iff.1 hoj).1
      have h1 := (hli i hs).resolve_left (by rw [hik]; simp)
      rcases Nat.lt_or_ge i listed.size with h' | h'
      · simp [h'] at hr h1; rw [hr] at h1; cases h1
      · simp [Array.getElem?_eq_none h'] at h1
  | k :: l, listed, a, hB, h => by
    simp only [headBP, Bool.and_eq_true] at hB
    obtain ⟨⟨⟨⟨⟨hs, hkn⟩, hr⟩, hf⟩, hw⟩, hB'⟩ := hB
    obtain ⟨o, h0⟩ := Option.isSome_iff_exists.1 hs
    rw [pickOps_cons h0] at h
    have hst : qOp P ops C k (wpQuiet P ops C (fun a' => ∀ w, C w → wpQuiet P ops (fun _ => True) (fun a3 => wpList P ops Q (pickOps ops ts) a3 w) (pickOps ops gs) a') (pickOps ops l)) a := by unfold qOp; simp only [h0]; exact h
    obtain ⟨v, hy, hK⟩ := yieldsIn_of_qOp h0 hst
    have IH := wpAnyMP_head hsel hQ hw0 gs ts l (listed.setIfInBounds k true) (a.put o.dst v) hB' hK
    rw [List.length_cons, Nat.add_right_comm]
    simp only [waitsBP, Bool.and_eq_true, List.all_eq_true, List.mem_range] at hw
    obtain ⟨hDk, hall⟩ := hw
    refine wpAnyMP_first (D := fun j => (desc md ops k).getD j false) h0 hkn (Region.noSelect_spec hsel) ⟨fun j hj hnj => ?_, fun j oj hj hd hjk => ?_⟩ _ listed a (Region.free_spec h0 hf) (fun j hj hd => ?_) (by simpa using hr) hy IH
    · have := (hall j hj).1
      simp only [Bool.or_eq_true] at this
      exact this.resolve_left (by rw [hnj]; simp)
    · have h1 := (hall j (Array.getElem?_eq_some_iff.1 hj).1).2
      simp only [Bool.or_eq_true, Bool.not_eq_true', Bool.and_eq_true, beq_iff_eq, hj, Option.map_some, Option.getD_some] at h1
      rcases h1 with h1 | ⟨_, h1⟩
      · rw [h1] at hd; cases hd
      · obtain ⟨e, he, hb⟩ := Array.any_eq_true'.1 (h1.resolve_left hjk)
        simp only [Bool.and_eq_true, decide_eq_true_eq] at hb
        exact ⟨e, he, hb.1.1, hb.1.2, hb.2⟩
    · have h1 := (hall j hj).2
      simp only [Bool.or_eq_true, Bool.not_eq_true', Bool.and_eq_true] at h1
      rcases h1 with h1 | ⟨h1, _⟩
      · rw [h1] at hd; cases hd
      · exact h1

def flatBP (md : Region.Mode) (ops : Array Oper) (hd : Nat → Bool) (hs gs ts : List Nat) : List Nat → Array Bool → Bool
  | [], listed => headBP md ops hd gs ts hs listed
  | k :: l, listed => (ops[k]?).isSome && (Region.ready md ops listed).contains k && Region.free md ops listed k && ((ops[k]?).map flatOp).getD false && flatBP md ops hd hs gs ts l (listed.setIfInBounds k true)
theorem wpAny_flat (hsel : Region.noSelect ops = true) (hQ : Calm Q) (hs gs ts : List Nat) {w : World} (hw : C w) : ∀ (l : List Nat) (listed : Array Bool) (a : Act), flatBP md ops hd hs gs ts l listed = true →
    wpQuiet P ops (fun _ => True) (fun a1 => wpQuiet P ops C (fun a' => ∀ w, C w → wpQuiet P ops (fun _ => True) (fun a3 => wpList P ops Q (pickOps ops ts) a3 w) (pickOps ops gs) a') (pickOps ops hs) a1) (pickOps ops l) a → wpAny P md ops Q (l.length + (hs.length + (gs.length + ts.length))) listed a w
  | [], listed, a, hB, h => by
    simp only [List.length_nil, Nat.zero_add]
    exact wpAny_of_MP _ _ _ _ hw (wpAnyMP_head hsel hQ hw gs ts hs listed a hB h)
  | k :: l, listed, a, hB, h => by
    simp only [flatBP, Bool.and_eq_true] at hB
    obtain ⟨⟨⟨⟨hs1, hr⟩, hf⟩, hfl⟩, hB'⟩ := hB
    obtain ⟨o, h0⟩ := Option.isSome_iff_exists.1 hs1
    rw [pickOps_cons h0] at h
    have hst : qOp P ops (fun _ => True) k (wpQuiet P ops (fun _ => True) (fun a1 => wpQuiet P ops C (fun a' => ∀ w, C w → wpQuiet P ops (fun _ => True) (fun a3 => wpList P ops Q (pickOps ops ts) a3 w) (pickOps ops gs) a') (pickOps ops hs) a1) (pickOps ops l)) a := by unfold qOp; simp only [h0]; exact h
    obtain ⟨v, hy, hK⟩ := yieldsIn_of_qOp h0 hst
    have hfl' : flatOp o = true := by simpa [h0] using hfl
    rw [List.length_cons, Nat.add_right_comm]
    exact wpAny_first h0 (Region.noSelect_spec hsel) (fun c a w h => (hQ.1 c _ w h).elim) _ listed a w (Region.free_spec h0 hf) (by simpa using hr) (yields_of_flat hfl' hy)
      (wpAny_flat hsel hQ hs gs ts hw l _ _ hB' hK)

def hoistBP (ops : Array Oper) (fs hs gs ts : List Nat) : Bool := Region.noSelect ops && (fs.length + (hs.length + (gs.length + ts.length)) == ops.size) && flatBP .any ops (fun i => hs.contains i || fs.contains i) hs gs ts fs (Array.replicate ops.size false)

/-- THE LAW. -/
theorem wp_region_hoistP {id : Nat} {a : Act} {w : World} {l : List Oper} (fs hs gs ts : List Nat) (hm : P.follows .mixedOrders = true) (hB : hoistBP l.toArray fs hs gs ts = true) (hQ : Calm Q)
    (h : wpQuiet P l.toArray (fun _ => True) (fun a1 => wpQuiet P l.toArray (fun w' => ∃ k, w' = w.drewN k) (fun a' => ∀ w', (∃ k, w' = w.drewN k) → wpQuiet P l.toArray (fun _ => True) (fun a3 => wpList P l.toArray Q (pickOps l.toArray ts) a3 w') (pickOps l.toArray gs) a') (pickOps l.toArray hs) a1) (pickOps l.toArray fs) a) : (Code.region id l.toArray true).wp P Q a w := by
  simp only [hoistBP, Bool.and_eq_true, beq_iff_eq] at hB
  obtain ⟨⟨hsel, hn⟩, hh⟩ := hB
  refine wp_region_any hm ?_
  have hw0 : (fun w' => ∃ k, w' = w.drewN k) ({ w with drawn := w.drawn + 1 } : World) := ⟨1, rfl⟩
  have := wpAny_flat (C := fun w' => ∃ k, w' = w.drewN k) (md := .any) hsel hQ hs gs ts hw0 fs (Array.replicate l.toArray.size false) a hh h
  rw [hn] at this
  exact this

end
end Go.Proofs.YtgclooabjilniaaDoor

/-
The package's integers by their cells: SetBits, Sign, Bits, Set, Neg. No condition.
-/
namespace Go.Proofs.YtgclooabjilniaaDoor
open Go.RowKit

/-- A cell that holds a value and is not frozen. -/
def CellF (w : World) (b i : Nat) (v : Value) : Prop := w.cell? ⟨b, i, none⟩ = some v ∧ w.frozen? ⟨b, i, none⟩ = false
theorem RI.drewN {k : IntKind} {w : World} {v : Value} {xs : List Int} (h : RI k w v xs) (n : Nat) : RI k (w.drewN n) v xs := ⟨h.isS, h.len, h.cell⟩
theorem RW.drewN {w : World} {v : Value} {ds : List Nat} (h : RW w v ds) (n : Nat) : RW (w.drewN n) v ds := ⟨h.ri.drewN n, h.lt⟩
def sgnI (neg : Bool) (l : Nat) : Int := if l = 0 then 0 else if neg then -1 else 1
theorem run_neq_ptr_other {P : Program} (w : World) {tp te : TypeId} {j : TypeInfo} {a b : Addr} {ca cb : Array Value} {ta tb : TypeId} (hp : P.underlying tp = some (.pointer te)) (hte : P.info? te = some j) (hsz : j.size ≠ 0)
    (hne : a ≠ b) (ha : w.heap[a.block]? = some (.cells ca ta (0, 0))) (hb : w.heap[b.block]? = some (.cells cb tb (0, 0))) :
    (binOp .neq tp (.pointer (some a)) (.pointer (some b))).run P w = .ok (.bool true) w := by
  have h : ∀ d : Nat, (Op.equalIn (d + 1) tp (.pointer (some a)) (.pointer (some b))).run P w = .ok false w := fun d => by
    simp [Op.equalIn, run_underlying hp, sizeOf, typeInfo, hte, hsz, run_sameAddr_other w hne ha hb]
  simp only [binOp]
  simp [Op.equal, Op.maxDepth, h 9999]
theorem info_size {P : Program} {t n : Nat} (h : (P.info? t).map (·.size) = some n) : ∃ j, P.info? t = some j ∧ j.size = n := by
  cases hi : P.info? t with
  | none => rw [hi] at h; cases h
  | some i => rw [hi] at h; exact ⟨i, rfl, by simpa using h⟩
theorem row_at {w : World} {b i : Nat} {cs : Array Value} {T : TypeId} {v : Value} (h : w.heap[b]? = some (.cells cs T (0, 0))) (hv : cs[i]? = some v) : CellF w b i v :=
  ⟨by rw [cell_of_row w b i _ _ _ h]; exact hv, frozen_of_row w b i _ _ h⟩
end Go.Proofs.YtgclooabjilniaaDoor

/-
The thin package's integers: of, wordsOf, told. No condition.
-/
namespace Go.Proofs.YtgclooabjilniaaDoor
open Go.RowKit

theorem take_nw {ws : List Nat} (h : ∀ d ∈ ws, d < 18446744073709551616) : ws.take (nw (wv ws)) = wds (wv ws) := by
  have hl := nw_le (wv_lt h)
  refine list_ext_getD (by rw [wds_length]; simp; omega) fun i => ?_
  rw [wds_getD, wv_dig h]
  by_cases hi : i < nw (wv ws)
  · simp [List.getD_eq_getElem?_getD, hi]
  · have h1 := wv_dig h i
    rw [wdg_ge (by omega)] at h1
    rw [← h1, List.getD_eq_getElem?_getD, List.getElem?_eq_none (by simp; omega)]; rfl
theorem rowset {w : World} {g i : Nat} {cs : Array Value} {T : TypeId} (u : Value) (h : w.heap[g]? = some (.cells cs T (0, 0))) : (w.setCell ⟨g, i, none⟩ u).heap[g]? = some (.cells (cs.setIfInBounds i u) T (0, 0)) := heap_setCell_same w g i _ _ u h
theorem Own.ne_row {w : World} {B e g : Nat} {v : Value} {xs : List Value} {cs : Array Value} {T : TypeId} (h : Own w B e v xs) (hr : w.heap[g]? = some (.cells cs T (0, 0))) (hT : T ≠ e) (hc : 0 < sCap v) : sBlk v ≠ g := by
  rcases h.row with h0 | ⟨_, cur, hg, _⟩
  · omega
  · intro he
    rw [he, hr] at hg
    simp only [Option.some.injEq, Obj.cells.injEq] at hg
    exact hT hg.2.1
theorem Own.away {w : World} {B e g : Nat} {v : Value} {xs : List Value} {cs : Array Value} {T : TypeId} (h : Own w B e v xs) (hr : w.heap[g]? = some (.cells cs T (0, 0))) (hT : T ≠ e) (i : Nat) (u : Value) : Own (w.setCell ⟨g, i, none⟩ u) B e v xs :=
  h.same fun hc => heap_setCell_other _ _ _ _ (by simpa using h.ne_row hr hT hc)
theorem Own.below {w w' : World} {B e : Nat} {v : Value} {xs : List Value} (h : Own w B e v xs) (hb : Below w.heap.size w w') : Own w' B e v xs :=
  h.same fun hc => hb.block _ (h.lt hc).2
theorem Own.takeW {w : World} {B e : Nat} {v : Value} {ws : List Nat} (h : Own w B e v (cellsW ws)) (hd : ∀ d ∈ ws, d < 18446744073709551616) : Own w B e (subS v 0 (nw (wv ws))) (cellsW (wds (wv ws))) := by
  have hl := nw_le (wv_lt hd)
  have := h.sub (l := 0) (n := nw (wv ws)) (Nat.zero_le _) (by rw [cellsW_length]; exact hl)
  rw [List.drop_zero] at this
  rw [← take_nw hd, cellsW, List.map_take]
  exact this

theorem wds_all (n : Nat) : ∀ d ∈ wds n, d < 18446744073709551616 := fun _ h => wds_lt h
def OfW (ws : List Nat) (B k : Nat) (w : World) (v : Value) (wr : World) : Prop := Own wr B 86 v (cellsW (ws.take k)) ∧ Below B w wr
theorem OfW.step {ws : List Nat} {B k : Nat} {w w1 : World} {v1 : Value} (hk : k < ws.length) (h : Own w1 B 86 v1 (cellsW (ws.take k) ++ [.int .u64 ((ws.getD k 0 : Nat) : Int)])) (hb : Below B w w1) : OfW ws B (k + 1) w v1 w1 := by
  refine ⟨?_, hb⟩
  rw [cellsW_snoc] at h
  rw [List.take_succ_eq_append_getElem hk]
  simpa [List.getD_eq_getElem?_getD, List.getElem?_eq_getElem hk] using h
theorem and_pos {n : Nat} : (decide (0 < nw n) && !false) = decide (0 < n) := by
  rcases Nat.eq_zero_or_pos n with h | h
  · subst h; rfl
  · simp [h, nw_pos h]
end Go.Proofs.YtgclooabjilniaaDoor

/-
Words: single bits, what lies below a bit, shifts; plain arithmetic. No condition.
-/
namespace Go.Proofs.YtgclooabjilniaaDoor

theorem wdv_step (n i : Nat) : n / 18446744073709551616 ^ i = 18446744073709551616 * (n / 18446744073709551616 ^ (i + 1)) + wdg n i := by
  unfold wdg
  rw [Nat.pow_succ, ← Nat.div_div_eq_div_mul]
  omega
theorem two_word (i : Nat) : (2 : Nat) ^ i = 18446744073709551616 ^ (i / 64) * 2 ^ (i % 64) := by
  rw [show (18446744073709551616 : Nat) = 2 ^ 64 from rfl, ← Nat.pow_mul, ← Nat.pow_add, Nat.div_add_mod]
theorem word_split {s : Nat} (h : s ≤ 64) : 2 ^ (64 - s) * 2 ^ s = 18446744073709551616 := by
  rw [← Nat.pow_add, show 64 - s + s = 64 by omega]
theorem wdg_bit (n i : Nat) : wdg n (i / 64) / 2 ^ (i % 64) % 2 = n / 2 ^ i % 2 := by
  unfold wdg
  rw [two_word i, ← Nat.div_div_eq_div_mul]
  generalize n / 18446744073709551616 ^ (i / 64) = m
  have hs : i % 64 < 64 := Nat.mod_lt _ (by decide)
  have e := word_split (show i % 64 ≤ 64 by omega)
  have e2 : 2 ^ (64 - i % 64) = 2 * 2 ^ (63 - i % 64) := by rw [show 64 - i % 64 = 63 - i % 64 + 1 by omega, Nat.pow_succ, Nat.mul_comm]
  generalize hP : 2 ^ (i % 64) = P at *
  generalize 2 ^ (63 - i % 64) = Q at *
  generalize 2 ^ (64 - i % 64) = R at *
  subst e2
  have hP0 : 0 < P := by rw [← hP]; exact Nat.pow_pos (by decide)
  rw [← e, Nat.mul_comm (2 * Q) P, Nat.mod_mul_right_div_self, Nat.mod_mul_right_mod]
theorem wlow_zero {n : Nat} : ∀ j : Nat, n % 18446744073709551616 ^ j = 0 ↔ ∀ k, k < j → wdg n k = 0
  | 0 => by simp [Nat.mod_one]
  | j + 1 => by
    have ih := wlow_zero (n := n) j
    have hs := wmod_succ n j
    have hp := wpow_pos j
    constructor
    · intro h k hk
      rw [h] at hs
      have h1 : n % 18446744073709551616 ^ j = 0 := by omega
      have h2 : 18446744073709551616 ^ j * wdg n j = 0 := by omega
      rcases (by omega : k < j ∨ k = j) with hk' | rfl
      · exact ih.1 h1 k hk'
      · rcases Nat.mul_eq_zero.1 h2 with h | h
        · omega
        · exact h
    · intro h
      rw [hs, ih.2 (fun k hk => h k (by omega)), h j (by omega)]
      simp
theorem sticky_iff (n i : Nat) : n % 2 ^ i = 0 ↔ (∀ k, k < i / 64 → wdg n k = 0) ∧ wdg n (i / 64) % 2 ^ (i % 64) = 0 := by
  rw [two_word i, Nat.mod_mul, ← wlow_zero]
  have hs : i % 64 < 64 := Nat.mod_lt _ (by decide)
  have e := word_split (show i % 64 ≤ 64 by omega)
  have h1 : wdg n (i / 64) % 2 ^ (i % 64) = n / 18446744073709551616 ^ (i / 64) % 2 ^ (i % 64) := by
    unfold wdg
    rw [← e, Nat.mul_comm, Nat.mod_mul_right_mod]
  rw [h1]
  have hp := wpow_pos (i / 64)
  generalize n / 18446744073709551616 ^ (i / 64) % 2 ^ (i % 64) = c
  generalize n % 18446744073709551616 ^ (i / 64) = a
  generalize 18446744073709551616 ^ (i / 64) = B at *
  constructor
  · intro h
    have h1 : a = 0 := by omega
    have h2 : B * c = 0 := by omega
    exact ⟨h1, (Nat.mul_eq_zero.1 h2).resolve_left (by omega)⟩
  · rintro ⟨rfl, rfl⟩; simp
theorem wdg_shl_zero (n : Nat) {s : Nat} (_hs : s ≤ 64) : wdg (n * 2 ^ s) 0 = wdg n 0 * 2 ^ s % 18446744073709551616 := by
  rw [wdg_zero_eq, wdg_zero_eq, Nat.mod_mul_mod]
theorem div_shl (n i : Nat) {s : Nat} (hs : s ≤ 64) : n * 2 ^ s / 18446744073709551616 ^ (i + 1) = wdg n i / 2 ^ (64 - s) + n / 18446744073709551616 ^ (i + 1) * 2 ^ s := by
  have hB := wpow_pos i
  have e := word_split hs
  have h1 : n = n % 18446744073709551616 ^ i + 18446744073709551616 ^ i * (wdg n i + 18446744073709551616 * (n / 18446744073709551616 ^ (i + 1))) := by
    have := wdv_step n i
    rw [Nat.add_comm (wdg n i), ← this]
    exact (Nat.mod_add_div n _).symm
  have hl := Nat.mod_lt n hB
  have hS : 0 < 2 ^ s := Nat.pow_pos (by decide)
  have hR : 0 < 2 ^ (64 - s) := Nat.pow_pos (by decide)
  have h3 : n * 2 ^ s / 18446744073709551616 ^ i = n % 18446744073709551616 ^ i * 2 ^ s / 18446744073709551616 ^ i + (wdg n i + 18446744073709551616 * (n / 18446744073709551616 ^ (i + 1))) * 2 ^ s := by
    conv => lhs; rw [h1]
    rw [Nat.add_mul, Nat.mul_assoc, Nat.add_mul_div_left _ _ hB]
  have h4 : n % 18446744073709551616 ^ i * 2 ^ s / 18446744073709551616 ^ i < 2 ^ s := Nat.div_lt_of_lt_mul (Nat.mul_lt_mul_of_pos_right hl hS)
  rw [Nat.pow_succ, ← Nat.div_div_eq_div_mul, h3]
  rw [Nat.pow_succ] at *
  generalize n % 18446744073709551616 ^ i * 2 ^ s / 18446744073709551616 ^ i = c at *
  generalize wdg n i = d at *
  generalize n / (18446744073709551616 ^ i * 18446744073709551616) = m at *
  generalize 2 ^ s = S at *
  generalize 2 ^ (64 - s) = R at *
  have h5 : c + (d + 18446744073709551616 * m) * S = (c + d * S) + 18446744073709551616 * (m * S) := by rw [Nat.add_mul, Nat.mul_assoc]; omega
  rw [h5, Nat.add_mul_div_left _ _ (by decide)]
  congr 1
  rw [← e, Nat.mul_comm R S, ← Nat.div_div_eq_div_mul, Nat.mul_comm d S, Nat.add_mul_div_left _ _ hS, Nat.div_eq_of_lt h4, Nat.zero_add]
theorem wdg_shl_succ (n i : Nat) {s : Nat} (hs : s < 64) : wdg (n * 2 ^ s) (i + 1) = wdg n i / 2 ^ (64 - s) + wdg n (i + 1) * 2 ^ s % 18446744073709551616 := by
  have e := word_split (show s ≤ 64 by omega)
  have h1 := div_shl n i (show s ≤ 64 by omega)
  have hd := wdg_lt n i
  have hS : 0 < 2 ^ s := Nat.pow_pos (by decide)
  have hR : 0 < 2 ^ (64 - s) := Nat.pow_pos (by decide)
  have h2 : wdg n i / 2 ^ (64 - s) < 2 ^ s := Nat.div_lt_of_lt_mul (by rw [e]; exact hd)
  show n * 2 ^ s / 18446744073709551616 ^ (i + 1) % 18446744073709551616 = _
  rw [h1]
  have h3 : wdg n (i + 1) * 2 ^ s % 18446744073709551616 = n / 18446744073709551616 ^ (i + 1) * 2 ^ s % 18446744073709551616 := by
    unfold wdg; rw [Nat.mod_mul_mod]
  rw [h3]
  have h4 : n / 18446744073709551616 ^ (i + 1) * 2 ^ s % 18446744073709551616 = n / 18446744073709551616 ^ (i + 1) % 2 ^ (64 - s) * 2 ^ s := by
    rw [← e, Nat.mul_mod_mul_right]
  have h5 : n / 18446744073709551616 ^ (i + 1) % 2 ^ (64 - s) < 2 ^ (64 - s) := Nat.mod_lt _ hR
  rw [h4]
  generalize wdg n i / 2 ^ (64 - s) = c at *
  generalize hm : n / 18446744073709551616 ^ (i + 1) = m at *
  have h6 : (m % 2 ^ (64 - s) + 1) * 2 ^ s ≤ 2 ^ (64 - s) * 2 ^ s := Nat.mul_le_mul_right _ h5
  rw [e, Nat.add_mul, Nat.one_mul] at h6
  rw [Nat.add_mod, h4, Nat.mod_eq_of_lt (show c < 18446744073709551616 by omega), Nat.mod_eq_of_lt (by omega)]
/-- The two parts of a shifted word don't meet. -/
theorem shl_or {c m s : Nat} (hs : s < 64) (hc : c < 2 ^ s) : (m * 2 ^ s % 18446744073709551616) ||| c = c + m * 2 ^ s % 18446744073709551616 := by
  have e := word_split (show s ≤ 64 by omega)
  have h4 : m * 2 ^ s % 18446744073709551616 = 2 ^ s * (m % 2 ^ (64 - s)) := by
    rw [← e, Nat.mul_mod_mul_right, Nat.mul_comm]
  rw [h4, ← Nat.two_pow_add_eq_or_of_lt hc, Nat.add_comm]
end Go.Proofs.YtgclooabjilniaaDoor

/-
  DERIVED: THE SHELF's CONTRACTS AT THIS DUMP, IN PLAIN WORDS (tools/lay-plain.mjs out of 'TrydShelf.lean', which tools/lay-shelf.mjs wrote): THE SAME DECLARATIONS UNDER THE SAME NAMES: 'import', 'namespace', 'open', 'def', 'theorem' AND NOTHING ELSE: no command of the shelf's: FOR A HAND-IN. Each laying: the table of numbers ('.._ren') and one theorem, a field a fact of the dump's own or the kernel's comparison; each contract: ONE APPLICATION.
-/
namespace Go.Proofs
open Go.Shelf
def Tryd.lays128_ren : Go.Shelf.Ren := ⟨fun | 128 => 85 | n => n, fun | 51 => 40 | 3 => 3 | 4 => 4 | 46 => 22 | 5 => 5 | 9 => 9 | n => n, fun | n => n⟩
theorem Tryd.lays128 : Go.Proofs.Lays.n128 Tryd.prog Tryd.lays128_ren := {
  mixed := by kernel_rfl
  f128 := Tryd.func85.trans (congrArg some (by kernel_rfl))
  t3 := Tryd.underlying3
  a3 := Tryd.isAgg3
  z3 := Tryd.sizeOf3
  v3 := Tryd.zeroValue3
  t4 := Tryd.underlying4
  a4 := Tryd.isAgg4
  z4 := Tryd.sizeOf4
  v4 := Tryd.zeroValue4
  t5 := Tryd.underlying5
  a5 := Tryd.isAgg5
  z5 := Tryd.sizeOf5
  v5 := Tryd.zeroValue5
  t9 := Tryd.underlying9
  a9 := Tryd.isAgg9
  z9 := Tryd.sizeOf9
  v9 := Tryd.zeroValue9
  t46 := Tryd.underlying22
  a46 := Tryd.isAgg22
  z46 := Tryd.sizeOf22
  v46 := Tryd.zeroValue22
  t51 := Tryd.underlying40
  a51 := Tryd.isAgg40
  z51 := Tryd.sizeOf40
  v51 := Tryd.zeroValue40 }
/-- bits.Len32: "Len32 returns the minimum number of bits required to represent x; the result is 0 for x == 0.": IT RETURNS 'Lib.bitLen x'; the world is as it was. ('h0', 'h1': x is a uint32.) (LAID: no walk: one application.) -/
theorem Tryd.bits_Len32 (x : Int) (w : World) (h0 : 0 ≤ x) (h1 : x ≤ 4294967295) :
    Calls Tryd.prog 85 #[.int .u32 x] w fun e w' => e = .returned (.int .i64 (Lib.bitLen x.toNat)) ∧ w' = w := Any.bits_Len32 Tryd.lays128 x w h0 h1
def Tryd.lays125_ren : Go.Shelf.Ren := ⟨fun | 125 => 82 | 128 => 85 | 129 => 68 | n => n, fun | 46 => 22 | 3 => 3 | 51 => 40 | 53 => 71 | 4 => 4 | 5 => 5 | 9 => 9 | n => n, fun | n => n⟩
theorem Tryd.lays125 : Go.Proofs.Lays.n125 Tryd.prog Tryd.lays125_ren := {
  mixed := by kernel_rfl
  f125 := Tryd.func82.trans (congrArg some (by kernel_rfl))
  f128 := Tryd.func85.trans (congrArg some (by kernel_rfl))
  f129 := Tryd.func68.trans (congrArg some (by kernel_rfl))
  t3 := Tryd.underlying3
  a3 := Tryd.isAgg3
  z3 := Tryd.sizeOf3
  v3 := Tryd.zeroValue3
  t4 := Tryd.underlying4
  a4 := Tryd.isAgg4
  z4 := Tryd.sizeOf4
  v4 := Tryd.zeroValue4
  t5 := Tryd.underlying5
  a5 := Tryd.isAgg5
  z5 := Tryd.sizeOf5
  v5 := Tryd.zeroValue5
  t9 := Tryd.underlying9
  a9 := Tryd.isAgg9
  z9 := Tryd.sizeOf9
  v9 := Tryd.zeroValue9
  t46 := Tryd.underlying22
  a46 := Tryd.isAgg22
  z46 := Tryd.sizeOf22
  v46 := Tryd.zeroValue22
  t51 := Tryd.underlying40
  a51 := Tryd.isAgg40
  z51 := Tryd.sizeOf40
  v51 := Tryd.zeroValue40
  t53 := Tryd.underlying71
  a53 := Tryd.isAgg71
  z53 := Tryd.sizeOf71
  v53 := Tryd.zeroValue71 }
/-- bits.Len: "Len returns the minimum number of bits required to represent x; the result is 0 for x == 0.": IT RETURNS 'Lib.bitLen x'; the world is as it was. (A uint has 64 bits in the model.) ITS CALLEE bits.Len64 IS MET BY ITS OWN CONTRACT OFF THE SHELF (lay that first). (LAID: no walk: one application.) -/
theorem Tryd.bits_Len (x : Int) (w : World) (h0 : 0 ≤ x) (h1 : x ≤ 18446744073709551615) :
    Calls Tryd.prog 82 #[.int .u64 x] w fun e w' => e = .returned (.int .i64 (Lib.bitLen x.toNat)) ∧ w' = w := Any.bits_Len Tryd.lays125 x w h0 h1
def Tryd.lays134_ren : Go.Shelf.Ren := ⟨fun | 134 => 51 | 129 => 68 | n => n, fun | 53 => 71 | 3 => 3 | 4 => 4 | 46 => 22 | 5 => 5 | 9 => 9 | n => n, fun | n => n⟩
theorem Tryd.lays134 : Go.Proofs.Lays.n134 Tryd.prog Tryd.lays134_ren := {
  mixed := by kernel_rfl
  f129 := Tryd.func68.trans (congrArg some (by kernel_rfl))
  f134 := Tryd.func51.trans (congrArg some (by kernel_rfl))
  t3 := Tryd.underlying3
  a3 := Tryd.isAgg3
  z3 := Tryd.sizeOf3
  v3 := Tryd.zeroValue3
  t4 := Tryd.underlying4
  a4 := Tryd.isAgg4
  z4 := Tryd.sizeOf4
  v4 := Tryd.zeroValue4
  t5 := Tryd.underlying5
  a5 := Tryd.isAgg5
  z5 := Tryd.sizeOf5
  v5 := Tryd.zeroValue5
  t9 := Tryd.underlying9
  a9 := Tryd.isAgg9
  z9 := Tryd.sizeOf9
  v9 := Tryd.zeroValue9
  t46 := Tryd.underlying22
  a46 := Tryd.isAgg22
  z46 := Tryd.sizeOf22
  v46 := Tryd.zeroValue22
  t53 := Tryd.underlying71
  a53 := Tryd.isAgg71
  z53 := Tryd.sizeOf71
  v53 := Tryd.zeroValue71 }
/-- bits.LeadingZeros64: "LeadingZeros64 returns the number of leading zero bits in x; the result is 64 for x == 0.": IT RETURNS '64 - Lib.bitLen x'; the world is as it was. ITS CALLEE bits.Len64 IS MET BY ITS OWN CONTRACT OFF THE SHELF (lay that first): entered in place it sends the kernel out of memory. (LAID: no walk: one application.) -/
theorem Tryd.bits_LeadingZeros64 (x : Int) (w : World) (h0 : 0 ≤ x) (h1 : x ≤ 18446744073709551615) :
    Calls Tryd.prog 51 #[.int .u64 x] w fun e w' => e = .returned (.int .i64 (64 - (Lib.bitLen x.toNat : Int))) ∧ w' = w := Any.bits_LeadingZeros64 Tryd.lays134 x w h0 h1
def Tryd.lays130_ren : Go.Shelf.Ren := ⟨fun | 130 => 75 | 125 => 82 | 128 => 85 | 129 => 68 | n => n, fun | 46 => 22 | 3 => 3 | 51 => 40 | 53 => 71 | 4 => 4 | 5 => 5 | 9 => 9 | n => n, fun | n => n⟩
theorem Tryd.lays130 : Go.Proofs.Lays.n130 Tryd.prog Tryd.lays130_ren := {
  mixed := by kernel_rfl
  f125 := Tryd.func82.trans (congrArg some (by kernel_rfl))
  f128 := Tryd.func85.trans (congrArg some (by kernel_rfl))
  f129 := Tryd.func68.trans (congrArg some (by kernel_rfl))
  f130 := Tryd.func75.trans (congrArg some (by kernel_rfl))
  t3 := Tryd.underlying3
  a3 := Tryd.isAgg3
  z3 := Tryd.sizeOf3
  v3 := Tryd.zeroValue3
  t4 := Tryd.underlying4
  a4 := Tryd.isAgg4
  z4 := Tryd.sizeOf4
  v4 := Tryd.zeroValue4
  t5 := Tryd.underlying5
  a5 := Tryd.isAgg5
  z5 := Tryd.sizeOf5
  v5 := Tryd.zeroValue5
  t9 := Tryd.underlying9
  a9 := Tryd.isAgg9
  z9 := Tryd.sizeOf9
  v9 := Tryd.zeroValue9
  t46 := Tryd.underlying22
  a46 := Tryd.isAgg22
  z46 := Tryd.sizeOf22
  v46 := Tryd.zeroValue22
  t51 := Tryd.underlying40
  a51 := Tryd.isAgg40
  z51 := Tryd.sizeOf40
  v51 := Tryd.zeroValue40
  t53 := Tryd.underlying71
  a53 := Tryd.isAgg71
  z53 := Tryd.sizeOf71
  v53 := Tryd.zeroValue71 }
/-- bits.LeadingZeros: "LeadingZeros returns the number of leading zero bits in x; the result is [UintSize] for x == 0.": IT RETURNS '64 - Lib.bitLen x'; the world is as it was. ITS CALLEE bits.Len IS MET BY ITS OWN CONTRACT OFF THE SHELF (lay that first): entered in place it sends the kernel out of memory. (LAID: no walk: one application.) -/
theorem Tryd.bits_LeadingZeros (x : Int) (w : World) (h0 : 0 ≤ x) (h1 : x ≤ 18446744073709551615) :
    Calls Tryd.prog 75 #[.int .u64 x] w fun e w' => e = .returned (.int .i64 (64 - (Lib.bitLen x.toNat : Int))) ∧ w' = w := Any.bits_LeadingZeros Tryd.lays130 x w h0 h1
def Tryd.lays129_ren : Go.Shelf.Ren := ⟨fun | 129 => 68 | n => n, fun | 53 => 71 | 3 => 3 | 4 => 4 | 46 => 22 | 5 => 5 | 9 => 9 | n => n, fun | n => n⟩
theorem Tryd.lays129 : Go.Proofs.Lays.n129 Tryd.prog Tryd.lays129_ren := {
  mixed := by kernel_rfl
  f129 := Tryd.func68.trans (congrArg some (by kernel_rfl))
  t3 := Tryd.underlying3
  a3 := Tryd.isAgg3
  z3 := Tryd.sizeOf3
  v3 := Tryd.zeroValue3
  t4 := Tryd.underlying4
  a4 := Tryd.isAgg4
  z4 := Tryd.sizeOf4
  v4 := Tryd.zeroValue4
  t5 := Tryd.underlying5
  a5 := Tryd.isAgg5
  z5 := Tryd.sizeOf5
  v5 := Tryd.zeroValue5
  t9 := Tryd.underlying9
  a9 := Tryd.isAgg9
  z9 := Tryd.sizeOf9
  v9 := Tryd.zeroValue9
  t46 := Tryd.underlying22
  a46 := Tryd.isAgg22
  z46 := Tryd.sizeOf22
  v46 := Tryd.zeroValue22
  t53 := Tryd.underlying71
  a53 := Tryd.isAgg71
  z53 := Tryd.sizeOf71
  v53 := Tryd.zeroValue71 }
/-- bits.Len64: "Len64 returns the minimum number of bits required to represent x; the result is 0 for x == 0.": IT RETURNS 'Lib.bitLen x'; the world is as it was. ('h0', 'h1': x is a uint64.) (LAID: no walk: one application.) -/
theorem Tryd.bits_Len64 (x : Int) (w : World) (h0 : 0 ≤ x) (h1 : x ≤ 18446744073709551615) :
    Calls Tryd.prog 68 #[.int .u64 x] w fun e w' => e = .returned (.int .i64 (Lib.bitLen x.toNat)) ∧ w' = w := Any.bits_Len64 Tryd.lays129 x w h0 h1
end Go.Proofs

/-
Floats: a Float at a block; setBits64, SetInt64 of a receiver without a precision. No condition.
-/
namespace Go.Proofs.YtgclooabjilniaaDoor
open Go.RowKit

theorem bitLenAux_eq : ∀ (f x : Nat), x < 2 ^ f → Lib.bitLenAux f x = bl x
  | 0, x, h => by
    have : x = 0 := by omega
    subst this; rfl
  | f + 1, x, h => by
    unfold Lib.bitLenAux
    split
    · rename_i h0; subst h0; rfl
    · rename_i h0
      rw [bitLenAux_eq f (x / 2) (by rw [Nat.pow_succ] at h; omega), ← bl_half (show 0 < x by omega)]; omega
theorem bitLen_eq {x : Nat} (h : x < 18446744073709551616) : Lib.bitLen x = bl x := bitLenAux_eq 64 x h
theorem bl_le64 {x : Nat} (h : x < 18446744073709551616) : bl x ≤ 64 := bl_le h
theorem lz64 (x : Nat) (w : World) (h : x < 18446744073709551616) :
    Calls Tryd.prog 51 #[.int .u64 x] w fun e w' => e = .returned (.int .i64 ((64 - bl x : Nat) : Int)) ∧ w = w' := by
  refine (Tryd.bits_LeadingZeros64 (x : Int) w (by omega) (by omega)).mono ?_
  rintro _ _ ⟨rfl, rfl⟩
  have := bl_le64 h
  refine ⟨?_, rfl⟩
  rw [Int.toNat_natCast, bitLen_eq h]
  exact congrArg (fun z => Ending.returned (.int .i64 z)) (by omega)
set_option maxRecDepth 100000 in
theorem setUint64_nil (d : Nat) (w : World) (h0 : 0 < d) (hd : d < 18446744073709551616) :
    Calls Tryd.prog 52 #[.slice none 0 0, .int .u64 d] w fun e w' => ∃ r, e = .returned r ∧ Own w' w.heap.size 86 r (cellsW [d]) ∧ Below w.heap.size w w' := by
  have H0 := Lib.hid h0
  have HD := Lib.hid hd
  clear h0 hd
  go_enter Tryd.func52, Tryd.ntmps52
  go_wp2_with fail
  refine (setWord_nil d w H0.out HD.out).mono ?_
  rintro _ w1 ⟨r, rfl, ho, hb⟩
  have hS := ho.isS
  go_wp2
  go_ret
  exact ⟨_, rfl, ho, hb⟩

/-- The cells of a Float. -/
def fcells (p m : Nat) (a : Int) (f : Nat) (neg : Bool) (v : Value) (e : Int) : Array Value := #[.int .u32 p, .int .u8 m, .int .i8 a, .int .u8 f, .bool neg, v, .int .i32 e]
/-- A Float at a block. -/
def FltR (w : World) (b p m : Nat) (a : Int) (f : Nat) (neg : Bool) (v : Value) (e : Int) : Prop := w.heap[b]? = some (.cells (fcells p m a f neg v e) 48 (0, 0))
theorem FltR.cells {w : World} {b p m f : Nat} {a e : Int} {neg : Bool} {v : Value} (h : FltR w b p m a f neg v e) :
    w.cell? ⟨b, 0, none⟩ = some (.int .u32 p) ∧ w.cell? ⟨b, 1, none⟩ = some (.int .u8 m) ∧ w.cell? ⟨b, 2, none⟩ = some (.int .i8 a) ∧ w.cell? ⟨b, 3, none⟩ = some (.int .u8 f) ∧ w.cell? ⟨b, 4, none⟩ = some (.bool neg) ∧ w.cell? ⟨b, 5, none⟩ = some v ∧ w.cell? ⟨b, 6, none⟩ = some (.int .i32 e) :=
  ⟨(row_at (i := 0) h rfl).1, (row_at (i := 1) h rfl).1, (row_at (i := 2) h rfl).1, (row_at (i := 3) h rfl).1, (row_at (i := 4) h rfl).1, (row_at (i := 5) h rfl).1, (row_at (i := 6) h rfl).1⟩
theorem FltR.free {w : World} {b p m f : Nat} {a e : Int} {neg : Bool} {v : Value} (h : FltR w b p m a f neg v e) :
    w.frozen? ⟨b, 0, none⟩ = false ∧ w.frozen? ⟨b, 1, none⟩ = false ∧ w.frozen? ⟨b, 2, none⟩ = false ∧ w.frozen? ⟨b, 3, none⟩ = false ∧ w.frozen? ⟨b, 4, none⟩ = false ∧ w.frozen? ⟨b, 5, none⟩ = false ∧ w.frozen? ⟨b, 6, none⟩ = false :=
  ⟨frozen_of_row w b 0 _ _ h, frozen_of_row w b 1 _ _ h, frozen_of_row w b 2 _ _ h, frozen_of_row w b 3 _ _ h, frozen_of_row w b 4 _ _ h, frozen_of_row w b 5 _ _ h, frozen_of_row w b 6 _ _ h⟩
theorem FltR.lt {w : World} {b p m f : Nat} {a e : Int} {neg : Bool} {v : Value} (h : FltR w b p m a f neg v e) : b < w.heap.size := (heap_alloc_lt (o := .cells #[] 0) h).2
theorem FltR.below {w w' : World} {b p m f : Nat} {a e : Int} {neg : Bool} {v : Value} (h : FltR w b p m a f neg v e) (hb : Below w.heap.size w w') : FltR w' b p m a f neg v e := keep_row hb h
theorem FltR.drewN {w : World} {b p m f : Nat} {a e : Int} {neg : Bool} {v : Value} (h : FltR w b p m a f neg v e) (n : Nat) : FltR (w.drewN n) b p m a f neg v e := h
theorem FltR.s0 {w : World} {b p m f : Nat} {a e : Int} {neg : Bool} {v : Value} (h : FltR w b p m a f neg v e) (x : Nat) : FltR (w.setCell ⟨b, 0, none⟩ (.int .u32 x)) b x m a f neg v e := rowset (i := 0) (.int .u32 x) h
theorem FltR.s1 {w : World} {b p m f : Nat} {a e : Int} {neg : Bool} {v : Value} (h : FltR w b p m a f neg v e) (x : Nat) : FltR (w.setCell ⟨b, 1, none⟩ (.int .u8 x)) b p x a f neg v e := rowset (i := 1) (.int .u8 x) h
theorem FltR.s2 {w : World} {b p m f : Nat} {a e : Int} {neg : Bool} {v : Value} (h : FltR w b p m a f neg v e) (x : Int) : FltR (w.setCell ⟨b, 2, none⟩ (.int .i8 x)) b p m x f neg v e := rowset (i := 2) (.int .i8 x) h
theorem FltR.s3 {w : World} {b p m f : Nat} {a e : Int} {neg : Bool} {v : Value} (h : FltR w b p m a f neg v e) (x : Nat) : FltR (w.setCell ⟨b, 3, none⟩ (.int .u8 x)) b p m a x neg v e := rowset (i := 3) (.int .u8 x) h
theorem FltR.s4 {w : World} {b p m f : Nat} {a e : Int} {neg : Bool} {v : Value} (h : FltR w b p m a f neg v e) (x : Bool) : FltR (w.setCell ⟨b, 4, none⟩ (.bool x)) b p m a f x v e := rowset (i := 4) (.bool x) h
theorem FltR.s5 {w : World} {b p m f : Nat} {a e : Int} {neg : Bool} {v : Value} (h : FltR w b p m a f neg v e) (x : Value) : FltR (w.setCell ⟨b, 5, none⟩ x) b p m a f neg x e := rowset (i := 5) x h
theorem FltR.s6 {w : World} {b p m f : Nat} {a e : Int} {neg : Bool} {v : Value} (h : FltR w b p m a f neg v e) (x : Int) : FltR (w.setCell ⟨b, 6, none⟩ (.int .i32 x)) b p m a f neg v x := rowset (i := 6) (.int .i32 x) h
/-- What is owned elsewhere is as it was where a Float's cell is written. -/
theorem FltR.own {w : World} {b p m f B : Nat} {a e : Int} {neg : Bool} {v u : Value} {xs : List Value} (h : FltR w b p m a f neg v e) (ho : Own w B 86 u xs) (i : Nat) (x : Value) : Own (w.setCell ⟨b, i, none⟩ x) B 86 u xs :=
  ho.away h (by decide) i x
end Go.Proofs.YtgclooabjilniaaDoor

/-
Floats: setBits64, SetInt64 of a new receiver. No condition.
-/
namespace Go.Proofs.YtgclooabjilniaaDoor
open Go.RowKit

theorem shl_top {x : Nat} (h0 : 0 < x) (hx : x < 18446744073709551616) : x * 2 ^ (64 - bl x) < 18446744073709551616 ∧ 9223372036854775808 ≤ x * 2 ^ (64 - bl x) := by
  have h1 := lt_bl x
  have h2 := bl_ge h0
  have h3 := bl_le64 hx
  have h4 := bl_pos h0
  have hP : 0 < 2 ^ (64 - bl x) := Nat.pow_pos (by decide)
  have e1 : 2 ^ bl x * 2 ^ (64 - bl x) = 18446744073709551616 := by rw [← Nat.pow_add, show bl x + (64 - bl x) = 64 by omega]
  have e2 : 2 ^ (bl x - 1) * 2 ^ (64 - bl x) = 9223372036854775808 := by rw [← Nat.pow_add, show bl x - 1 + (64 - bl x) = 63 by omega]
  exact ⟨by rw [← e1]; exact Nat.mul_lt_mul_of_pos_right h1 hP, by rw [← e2]; exact Nat.mul_le_mul_right _ h2⟩
set_option maxRecDepth 100000 in
set_option maxHeartbeats 800000 in
theorem setBits64_zero (b B m f : Nat) (a e : Int) (neg neg0 : Bool) (v : Value) (w : World) (h : FltR w b 0 m a f neg0 v e) (hB : B ≤ b) :
    Calls Tryd.prog 33 #[.pointer (some ⟨b, 0, none⟩), .bool neg, .int .u64 0] w fun e' w' => e' = .returned (.pointer (some ⟨b, 0, none⟩)) ∧ FltR w' b 64 m 0 0 neg v e ∧ Below B w w' := by
  obtain ⟨c0, c1, c2, c3, c4, -, c6⟩ := h.cells
  obtain ⟨f0, f1, f2, f3, f4, -, f6⟩ := h.free
  have c0' : w.cell? ⟨b, 0, none⟩ = some (.int .u32 0) := c0
  have F := Lib.hid ((((h.s0 64).s2 0).s4 neg).s3 0)
  have BB := Lib.hid (bset (i := 3) (u := .int .u8 (0 : Int)) (bset (i := 4) (u := .bool neg) (bset (i := 2) (u := .int .i8 0) (bset (i := 0) (u := .int .u32 (64 : Int)) (Below.refl B w) hB) hB) hB) hB)
  clear c0 h
  go_enter Tryd.func33, Tryd.ntmps33
  go_wp2
  go_ret
  exact ⟨rfl, F.out, BB.out⟩
set_option maxRecDepth 100000 in
set_option maxHeartbeats 800000 in
theorem setBits64_pos (b B m f : Nat) (a e : Int) (neg neg0 : Bool) (x : Nat) (w : World) (h : FltR w b 0 m a f neg0 (.slice none 0 0) e) (hB : B ≤ b) (h0 : 0 < x) (hx : x < 18446744073709551616) :
    Calls Tryd.prog 33 #[.pointer (some ⟨b, 0, none⟩), .bool neg, .int .u64 x] w fun e' w' => e' = .returned (.pointer (some ⟨b, 0, none⟩)) ∧ ∃ v, FltR w' b 64 m 0 1 neg v (bl x : Nat) ∧ Own w' B 86 v (cellsW [x * 2 ^ (64 - bl x)]) ∧ Below B w w' := by
  obtain ⟨c0, c1, c2, c3, c4, c5, c6⟩ := h.cells
  obtain ⟨f0, f1, f2, f3, f4, f5, f6⟩ := h.free
  have hlt := h.lt
  have c0' : w.cell? ⟨b, 0, none⟩ = some (.int .u32 0) := c0
  have R4 := Lib.hid ((((h.s0 64).s2 0).s4 neg).s3 1)
  have B4 := Lib.hid (bset (i := 3) (u := .int .u8 (1 : Int)) (bset (i := 4) (u := .bool neg) (bset (i := 2) (u := .int .i8 0) (bset (i := 0) (u := .int .u32 (64 : Int)) (Below.refl B w) hB) hB) hB) hB)
  have t1 : ((x : Int) == 0) = false := by rw [beq_eq_false_iff_ne]; omega
  have hst := shl_top h0 hx
  have hbl := bl_le64 hx
  have hbp := bl_pos h0
  obtain ⟨l, hl⟩ : ∃ l, l = bl x := ⟨_, rfl⟩
  have HX := Lib.hid hx
  rw [← hl] at hst hbl hbp ⊢
  have hs64 : 64 - l < 64 := by omega
  have hP2 : (2 : Int) ^ (64 - l) = ((2 ^ (64 - l) : Nat) : Int) := by simp
  obtain ⟨s, hs⟩ : ∃ s, s = 64 - l := ⟨_, rfl⟩
  rw [← hs] at hst hs64 hP2 ⊢
  obtain ⟨S, hS⟩ : ∃ S, S = 2 ^ s := ⟨_, rfl⟩
  rw [← hS] at hst hP2 ⊢
  obtain ⟨y, hy⟩ : ∃ y, y = x * S := ⟨_, rfl⟩
  rw [← hy] at hst ⊢
  have hxy : (x : Int) * (S : Int) = (y : Int) := by rw [hy]; simp
  obtain ⟨hy1, hy2⟩ := hst
  have HL := Lib.hid hl
  have HSl := Lib.hid hs
  have hls : (64 : Int) - (s : Int) = (l : Int) := by omega
  have hl2 : l ≤ 64 := hbl
  clear c0 h hl hs hS hy h0 hx hbl
  go_enter Tryd.func33, Tryd.ntmps33
  go_wp2_with fail
  refine (lz64 x _ HX.out).mono ?_
  rintro _ _ ⟨rfl, rfl⟩
  rw [← HL.out, ← HSl.out]
  go_wp2_with fail
  refine (setUint64_nil y _ (by omega) hy1).mono ?_
  rintro _ w5 ⟨v, rfl, ho, hb⟩
  have hSv := ho.isS
  have R5 := R4.out.below hb
  have B5 := B4.out.trans (hb.mono (by simp; omega))
  obtain ⟨d0, d1, d2, d3, d4, d5, d6⟩ := R5.cells
  obtain ⟨g0, g1, g2, g3, g4, g5, g6⟩ := R5.free
  have d0' : w5.cell? ⟨b, 0, none⟩ = some (.int .u32 64) := d0
  have F := Lib.hid ((R5.s5 v).s6 (l : Int))
  have O := Lib.hid ((R5.s5 v).own (R5.own (ho.mono (show B ≤ _ by simp; omega)) 5 v) 6 (.int .i32 (l : Int)))
  have BF := Lib.hid (bset (i := 6) (u := .int .i32 (l : Int)) (bset (i := 5) (u := v) B5 hB) hB)
  clear c0' c1 c2 c3 c4 c5 c6 f0 f1 f2 f3 f4 f5 f6 d0 R5 ho hb B5
  go_wp2
  go_ret
  exact ⟨rfl, v, F.out, O.out, BF.out⟩
end Go.Proofs.YtgclooabjilniaaDoor

/-
Floats: SetInt64 of a new receiver, ord. No condition.
-/
namespace Go.Proofs.YtgclooabjilniaaDoor
open Go.RowKit

/-- A Float that is an integer of 64 bits. -/
def SIV (w : World) (B b m : Nat) (x : Int) : Prop :=
  (x = 0 ∧ ∃ v e, FltR w b 64 m 0 0 false v e) ∨
  (x ≠ 0 ∧ ∃ v, FltR w b 64 m 0 1 (decide (x < 0)) v (bl x.natAbs : Nat) ∧ Own w B 86 v (cellsW [x.natAbs * 2 ^ (64 - bl x.natAbs)]))
set_option maxRecDepth 100000 in
set_option maxHeartbeats 800000 in
theorem setInt64_0 (b B m f : Nat) (a e : Int) (neg0 : Bool) (x : Int) (w : World) (h : FltR w b 0 m a f neg0 (.slice none 0 0) e) (hB : B ≤ b) (h1 : -9223372036854775808 ≤ x) (h2 : x ≤ 9223372036854775807) :
    Calls Tryd.prog 14 #[.pointer (some ⟨b, 0, none⟩), .int .i64 x] w fun e' w' => e' = .returned (.pointer (some ⟨b, 0, none⟩)) ∧ SIV w' B b m x ∧ Below B w w' := by
  have H := Lib.hid h
  clear h
  by_cases h0 : x = 0
  · subst h0
    go_enter Tryd.func14, Tryd.ntmps14
    go_wp2_with fail
    refine (setBits64_zero b B m f a e false neg0 _ w H.out hB).mono ?_
    rintro _ w1 ⟨rfl, hF, hb⟩
    go_wp2
    go_ret
    exact ⟨rfl, .inl ⟨rfl, _, _, hF⟩, hb⟩
  · have Hn : Hid (0 < x.natAbs) := Lib.hid (by omega)
    have Hl : Hid (x.natAbs < 18446744073709551616) := Lib.hid (by omega)
    have H0 := Lib.hid h0
    by_cases hp : 0 < x
    · have t1 : decide (x < 0) = false := by rw [decide_eq_false_iff_not]; omega
      obtain ⟨n, rfl⟩ := Int.eq_ofNat_of_zero_le (show 0 ≤ x by omega)
      have hn : n < 18446744073709551616 := by omega
      have hn0 : 0 < n := by omega
      clear h0
      go_enter Tryd.func14, Tryd.ntmps14
      go_wp2_with fail
      refine (setBits64_pos b B m f a e false neg0 n w H.out hB hn0 hn).mono ?_
      rintro _ w1 ⟨rfl, v, hF, ho, hb⟩
      go_wp2
      go_ret
      exact ⟨rfl, .inr ⟨H0.out, v, by rw [t1]; exact hF, ho⟩, hb⟩
    · have t1 : decide (x < 0) = true := by rw [decide_eq_true_iff]; omega
      obtain ⟨n, hn⟩ : ∃ n, n = x.natAbs := ⟨_, rfl⟩
      rw [← hn] at Hn Hl
      have HN := Lib.hid hn
      have hx : x = -(n : Int) := by omega
      subst hx
      clear h0 hn
      by_cases hm : n = 9223372036854775808
      · subst hm
        go_enter Tryd.func14, Tryd.ntmps14
        go_wp2_with fail
        rw [show IntKind.u64.wrap (wrap64 9223372036854775808) = ((9223372036854775808 : Nat) : Int) by decide +kernel]
        refine (setBits64_pos b B m f a e true neg0 9223372036854775808 w H.out hB Hn.out Hl.out).mono ?_
        rintro _ w1 ⟨rfl, v, hF, ho, hb⟩
        go_wp2
        go_ret
        exact ⟨rfl, .inr ⟨H0.out, v, by rw [t1, ← HN.out]; exact hF, by rw [← HN.out]; exact ho⟩, hb⟩
      · have hn2 : n ≤ 9223372036854775807 := by omega
        clear hm
        go_enter Tryd.func14, Tryd.ntmps14
        go_wp2_with fail
        refine (setBits64_pos b B m f a e true neg0 n w H.out hB Hn.out Hl.out).mono ?_
        rintro _ w1 ⟨rfl, v, hF, ho, hb⟩
        go_wp2
        go_ret
        exact ⟨rfl, .inr ⟨H0.out, v, by rw [t1, ← HN.out]; exact hF, by rw [← HN.out]; exact ho⟩, hb⟩
/-- What ord answers. -/
def ordV (f : Nat) (neg : Bool) : Int := if neg then -(f : Int) else f
end Go.Proofs.YtgclooabjilniaaDoor

/-
Floats: the order of two magnitudes. No condition.
-/
namespace Go.Proofs.YtgclooabjilniaaDoor
open Go.RowKit

/-- The words from the top on, 0 behind them. -/
def topW (xs : List Nat) (k : Nat) : Nat := if k < xs.length then xs.getD (xs.length - 1 - k) 0 else 0
theorem topW_lt {xs : List Nat} (h : ∀ d ∈ xs, d < 18446744073709551616) (k : Nat) : topW xs k < 18446744073709551616 := by
  unfold topW; split
  · exact getD_ltW h _
  · decide
/-- Words ahead of so many places. -/
def topV (xs : List Nat) (n : Nat) : Nat := wv xs * 18446744073709551616 ^ n
theorem wdg_mul_pow (n j i : Nat) : wdg (n * 18446744073709551616 ^ j) i = if i < j then 0 else wdg n (i - j) := by
  unfold wdg
  split
  · rename_i h
    obtain ⟨t, rfl⟩ : ∃ t, j = i + 1 + t := ⟨j - i - 1, by omega⟩
    have : n * 18446744073709551616 ^ (i + 1 + t) = 18446744073709551616 ^ i * (18446744073709551616 * (n * 18446744073709551616 ^ t)) := by
      rw [Nat.pow_add, Nat.pow_succ]; grind
    rw [this, Nat.mul_div_cancel_left _ (wpow_pos i)]; omega
  · rename_i h
    obtain ⟨t, rfl⟩ : ∃ t, i = j + t := ⟨i - j, by omega⟩
    rw [Nat.add_sub_cancel_left, Nat.pow_add, ← Nat.div_div_eq_div_mul, Nat.mul_div_cancel _ (wpow_pos j)]
theorem topV_wdg {xs : List Nat} (h : ∀ d ∈ xs, d < 18446744073709551616) {n k : Nat} (hk : k < xs.length + n) : wdg (topV xs n) (xs.length + n - 1 - k) = topW xs k := by
  unfold topV topW
  rw [wdg_mul_pow]
  by_cases h1 : k < xs.length
  · rw [if_neg (by omega), if_pos h1, wv_dig h, show xs.length + n - 1 - k - n = xs.length - 1 - k by omega]
  · rw [if_pos (by omega), if_neg h1]
theorem topV_lt {xs : List Nat} (h : ∀ d ∈ xs, d < 18446744073709551616) (n : Nat) : topV xs n < 18446744073709551616 ^ (xs.length + n) := by
  unfold topV
  rw [Nat.pow_add]
  exact Nat.mul_lt_mul_of_pos_right (wv_lt h) (wpow_pos n)
theorem lt_of_wdg' {x y i : Nat} (he : x / 18446744073709551616 ^ (i + 1) = y / 18446744073709551616 ^ (i + 1)) (h : wdg x i < wdg y i) : x < y := by
  have h1 := wdv_step x i
  have h2 := wdv_step y i
  refine Nat.lt_of_not_le fun hc => ?_
  have := Nat.div_le_div_right (c := 18446744073709551616 ^ i) hc
  omega
/-- What ucmp answers. -/
def ucmpV (e1 e2 : Int) (xs ys : List Nat) : Int := if e1 < e2 then -1 else if e2 < e1 then 1 else cmpN (topV xs ys.length) (topV ys xs.length)
/-- k words from the top on are alike. -/
def Alike (xs ys : List Nat) (k : Nat) : Prop := topV xs ys.length / 18446744073709551616 ^ (xs.length + ys.length - k) = topV ys xs.length / 18446744073709551616 ^ (xs.length + ys.length - k)
theorem Alike.start {xs ys : List Nat} (hx : ∀ d ∈ xs, d < 18446744073709551616) (hy : ∀ d ∈ ys, d < 18446744073709551616) : Alike xs ys 0 := by
  unfold Alike
  rw [Nat.sub_zero, Nat.div_eq_of_lt (topV_lt hx _), Nat.div_eq_of_lt (by rw [Nat.add_comm]; exact topV_lt hy _)]
theorem Alike.next {xs ys : List Nat} (hx : ∀ d ∈ xs, d < 18446744073709551616) (hy : ∀ d ∈ ys, d < 18446744073709551616) {k : Nat} (hk : k < xs.length + ys.length) (h : Alike xs ys k) (he : topW xs k = topW ys k) : Alike xs ys (k + 1) := by
  unfold Alike at *
  have h1 := topV_wdg hx (n := ys.length) hk
  have h2 := topV_wdg hy (n := xs.length) (show k < ys.length + xs.length by omega)
  rw [Nat.add_comm ys.length] at h2
  obtain ⟨j, hj⟩ : ∃ j, xs.length + ys.length - 1 - k = j := ⟨_, rfl⟩
  rw [hj] at h1 h2
  rw [show xs.length + ys.length - k = j + 1 by omega] at h
  rw [show xs.length + ys.length - (k + 1) = j by omega, wdv_step _ j, wdv_step (topV ys _) j, h, h1, h2, he]
theorem Alike.less {xs ys : List Nat} (hx : ∀ d ∈ xs, d < 18446744073709551616) (hy : ∀ d ∈ ys, d < 18446744073709551616) {k : Nat} (hk : k < xs.length + ys.length) (h : Alike xs ys k) (hl : topW xs k < topW ys k) : topV xs ys.length < topV ys xs.length := by
  unfold Alike at *
  have h1 := topV_wdg hx (n := ys.length) hk
  have h2 := topV_wdg hy (n := xs.length) (show k < ys.length + xs.length by omega)
  rw [Nat.add_comm ys.length] at h2
  obtain ⟨j, hj⟩ : ∃ j, xs.length + ys.length - 1 - k = j := ⟨_, rfl⟩
  rw [hj] at h1 h2
  rw [show xs.length + ys.length - k = j + 1 by omega] at h
  exact lt_of_wdg' h (by rw [h1, h2]; exact hl)
theorem Alike.symm {xs ys : List Nat} {k : Nat} (h : Alike xs ys k) : Alike ys xs k := by
  unfold Alike at *; rw [Nat.add_comm]; exact Eq.symm h
theorem Alike.full {xs ys : List Nat} {k : Nat} (hx : ∀ d ∈ xs, d < 18446744073709551616) (hy : ∀ d ∈ ys, d < 18446744073709551616) (h : Alike xs ys k) (h1 : xs.length ≤ k) (h2 : ys.length ≤ k) : topV xs ys.length = topV ys xs.length := by
  have step : ∀ n, k + n ≤ xs.length + ys.length → Alike xs ys (k + n) := by
    intro n
    induction n with
    | zero => intro _; exact h
    | succ n ih =>
      intro hn
      exact (ih (by omega)).next (k := k + n) hx hy (by omega) (by unfold topW; rw [if_neg (show ¬ k + n < xs.length by omega), if_neg (show ¬ k + n < ys.length by omega)])
  by_cases hk : k ≤ xs.length + ys.length
  · have := step (xs.length + ys.length - k) (by omega)
    rw [show k + (xs.length + ys.length - k) = xs.length + ys.length by omega] at this
    unfold Alike at this
    simpa using this
  · unfold Alike at h
    rw [show xs.length + ys.length - k = 0 by omega] at h
    simpa using h
end Go.Proofs.YtgclooabjilniaaDoor

/-
Floats: ucmp, Cmp. No condition.
-/
namespace Go.Proofs.YtgclooabjilniaaDoor
open Go.RowKit

theorem ucmpV_lt {e1 e2 : Int} (xs ys : List Nat) (h : e1 < e2) : ucmpV e1 e2 xs ys = -1 := if_pos h
theorem ucmpV_gt {e1 e2 : Int} (xs ys : List Nat) (h : e2 < e1) : ucmpV e1 e2 xs ys = 1 := by unfold ucmpV; rw [if_neg (by omega), if_pos h]
theorem ucmpV_eq (e : Int) (xs ys : List Nat) : ucmpV e e xs ys = cmpN (topV xs ys.length) (topV ys xs.length) := by unfold ucmpV; rw [if_neg (by omega), if_neg (by omega)]
theorem topW_ge {xs : List Nat} {k : Nat} (h : xs.length ≤ k) : topW xs k = 0 := by unfold topW; rw [if_neg (by omega)]
theorem topW_in {xs : List Nat} {k j : Nat} (h : xs.length - k = j + 1) : topW xs k = xs.getD j 0 := by unfold topW; rw [if_pos (by omega), show xs.length - 1 - k = j by omega]
set_option maxRecDepth 100000 in
set_option maxHeartbeats 1600000 in
theorem ucmp_any (b1 b2 p1 m1 f1 p2 m2 f2 : Nat) (a1 e1 a2 e2 : Int) (n1 n2 : Bool) (v1 v2 : Value) (xs ys : List Nat) (w : World) (h1 : FltR w b1 p1 m1 a1 f1 n1 v1 e1) (h2 : FltR w b2 p2 m2 a2 f2 n2 v2 e2) (r1 : RW w v1 xs) (r2 : RW w v2 ys) (hl1 : xs.length ≤ 1000000000) (hl2 : ys.length ≤ 1000000000) :
    Calls Tryd.prog 30 #[.pointer (some ⟨b1, 0, none⟩), .pointer (some ⟨b2, 0, none⟩)] w fun e' w' => e' = .returned (.int .i64 (ucmpV e1 e2 xs ys)) ∧ ∃ n, w' = w.drewN n := by
  obtain ⟨-, -, -, -, -, c5, c6⟩ := h1.cells
  obtain ⟨-, -, -, -, -, d5, d6⟩ := h2.cells
  have hS1 := r1.isS
  have hS2 := r2.isS
  have hL1 := r1.len
  have hL2 := r2.len
  have hx := r1.lt
  have hy := r2.lt
  obtain ⟨lx, hlx⟩ : ∃ lx, lx = xs.length := ⟨_, rfl⟩
  obtain ⟨ly, hly⟩ : ∃ ly, ly = ys.length := ⟨_, rfl⟩
  rw [← hlx] at hL1 hl1
  rw [← hly] at hL2 hl2
  have HLX := Lib.hid hlx
  have HLY := Lib.hid hly
  have HX := Lib.hid hx
  have HY := Lib.hid hy
  have HR1 := Lib.hid r1
  have HR2 := Lib.hid r2
  clear h1 h2 r1 r2 hlx hly hx hy
  by_cases h1 : e1 < e2
  · have t1 : decide (e1 < e2) = true := decide_eq_true h1
    have HE := Lib.hid h1
    clear h1
    go_enter Tryd.func30, Tryd.ntmps30
    go_wp2
    go_quiet (fail)
    go_wp2
    go_ret
    exact ⟨ret_int (ucmpV_lt _ _ HE.out).symm, _, rfl⟩
  · have t1 : decide (e1 < e2) = false := decide_eq_false h1
    by_cases h2 : e2 < e1
    · have t2 : decide (e2 < e1) = true := decide_eq_true h2
      have HE := Lib.hid h2
      clear h1 h2
      go_enter Tryd.func30, Tryd.ntmps30
      go_wp2
      go_quiet (fail)
      go_wp2
      go_quiet (fail)
      go_wp2
      go_ret
      exact ⟨ret_int (ucmpV_gt _ _ HE.out).symm, by simp only [World.drewN_drewN]; exact ⟨_, rfl⟩⟩
    · obtain rfl : e1 = e2 := by omega
      have t2 : decide (e1 < e1) = false := decide_eq_false (by omega)
      clear h1 h2
      go_enter Tryd.func30, Tryd.ntmps30
      go_wp2
      go_quiet (fail)
      go_wp2
      go_quiet (fail)
      go_wp2
      go_loopw [5, 6] (fun i j wr => ∃ k : Nat, i = .int .i64 ((lx - k : Nat) : Int) ∧ j = .int .i64 ((ly - k : Nat) : Int) ∧ Alike xs ys k ∧ ∃ n, wr = w.drewN n) (fun i j _ => (intOf i).toNat + (intOf j).toNat)
      case atStart => exact ⟨0, by simp, by simp, Alike.start HX.out HY.out, by first | exact ⟨_, rfl⟩ | (simp only [World.drewN_drewN]; exact ⟨_, rfl⟩)⟩
      case round =>
        obtain ⟨k, rfl, rfl, hA, nn, rfl⟩ := hrel
        have HA := Lib.hid hA
        clear hA
        obtain ⟨i, hi⟩ : ∃ i, i = lx - k := ⟨_, rfl⟩
        obtain ⟨j, hj⟩ : ∃ j, j = ly - k := ⟨_, rfl⟩
        rw [← hi, ← hj]
        have HI := Lib.hid hi
        have HJ := Lib.hid hj
        have hile : i ≤ lx := by omega
        have hjle : j ≤ ly := by omega
        clear hi hj
        -- THE ROUND
        have tx : ∀ i', i = i' + 1 → topW xs k = xs.getD i' 0 := fun i' h => topW_in (by rw [← HLX.out, ← HI.out]; exact h)
        have ty : ∀ j', j = j' + 1 → topW ys k = ys.getD j' 0 := fun j' h => topW_in (by rw [← HLY.out, ← HJ.out]; exact h)
        have tx0 : i = 0 → topW xs k = 0 := fun h => topW_ge (by rw [← HLX.out]; have := HI.out; omega)
        have ty0 : j = 0 → topW ys k = 0 := fun h => topW_ge (by rw [← HLY.out]; have := HJ.out; omega)
        have TX := Lib.hid tx
        have TY := Lib.hid ty
        have TX0 := Lib.hid tx0
        have TY0 := Lib.hid ty0
        have lt_of : 0 < i ∨ 0 < j → topW xs k < topW ys k → ucmpV e1 e1 xs ys = -1 := fun h hl => by
          rw [ucmpV_eq]; exact cmpN_lt (HA.out.less HX.out HY.out (by rw [← HLX.out, ← HLY.out]; have := HI.out; have := HJ.out; omega) hl)
        have gt_of : 0 < i ∨ 0 < j → topW ys k < topW xs k → ucmpV e1 e1 xs ys = 1 := fun h hl => by
          rw [ucmpV_eq]; exact cmpN_gt (HA.out.symm.less HY.out HX.out (by rw [← HLX.out, ← HLY.out]; have := HI.out; have := HJ.out; omega) hl)
        have nx : 0 < i ∨ 0 < j → topW xs k = topW ys k → Alike xs ys (k + 1) := fun h he => HA.out.next HX.out HY.out (by rw [← HLX.out, ← HLY.out]; have := HI.out; have := HJ.out; omega) he
        have LT := Lib.hid lt_of
        have GT := Lib.hid gt_of
        have NX := Lib.hid nx
        clear tx ty tx0 ty0 lt_of gt_of nx
        by_cases hi0 : i = 0
        · subst hi0
          by_cases hj0 : j = 0
          · subst hj0
            go_wp2
            go_ret
            refine ⟨ret_int ?_, _, rfl⟩
            rw [ucmpV_eq, HA.out.full HX.out HY.out (by rw [← HLX.out]; have := HI.out; omega) (by rw [← HLY.out]; have := HJ.out; omega), cmpN_eq]
          · obtain ⟨j', rfl⟩ : ∃ j', j = j' + 1 := ⟨j - 1, by omega⟩
            have cy := HR2.out.cell j' (by rw [← HLY.out]; omega)
            obtain ⟨q, hq⟩ : ∃ q, q = ys.getD j' 0 := ⟨_, rfl⟩
            rw [← hq] at cy
            have Hq := Lib.hid (hq.trans (TY.out _ rfl).symm)
            have ej : (((j' + 1 : Nat)) : Int) - 1 = (j' : Int) := by omega
            clear hq hj0
            have hjl : j' < ly := by omega
            have p0 := TX0.out rfl
            have HP0 := Lib.hid p0
            clear p0
            by_cases h3 : 0 < q
            · have t3 : decide (0 < q) = true := decide_eq_true h3
              go_wp2
              go_ret
              exact ⟨ret_int (LT.out (.inr (by omega)) (by rw [HP0.out, ← Hq.out]; exact h3)).symm, _, rfl⟩
            · have t3 : decide (0 < q) = false := decide_eq_false h3
              have hq0 : q = 0 := by omega
              have HQ0 := Lib.hid hq0
              clear hq0 h3
              go_wp2
              refine ⟨⟨k + 1, by rw [show lx - (k + 1) = 0 by have := HI.out; omega], by rw [show ly - (k + 1) = j' by have := HJ.out; omega], NX.out (.inr (by omega)) (by rw [HP0.out, ← Hq.out, HQ0.out]), _, rfl⟩, by simp [intOf] <;> omega⟩
        · obtain ⟨i', rfl⟩ : ∃ i', i = i' + 1 := ⟨i - 1, by omega⟩
          have cx := HR1.out.cell i' (by rw [← HLX.out]; omega)
          obtain ⟨p, hp⟩ : ∃ p, p = xs.getD i' 0 := ⟨_, rfl⟩
          rw [← hp] at cx
          have Hp := Lib.hid (hp.trans (TX.out _ rfl).symm)
          have ei : (((i' + 1 : Nat)) : Int) - 1 = (i' : Int) := by omega
          clear hp hi0
          have hil : i' < lx := by omega
          by_cases hj0 : j = 0
          · subst hj0
            have q0 := TY0.out rfl
            have HQ0 := Lib.hid q0
            clear q0
            by_cases h3 : 0 < p
            · have t3 : decide (0 < p) = true := decide_eq_true h3
              go_wp2
              go_ret
              exact ⟨ret_int (GT.out (.inl (by omega)) (by rw [HQ0.out, ← Hp.out]; exact h3)).symm, _, rfl⟩
            · have t3 : decide (0 < p) = false := decide_eq_false h3
              have hp0 : p = 0 := by omega
              have HP0 := Lib.hid hp0
              clear hp0 h3
              go_wp2
              refine ⟨⟨k + 1, by rw [show lx - (k + 1) = i' by have := HI.out; omega], by rw [show ly - (k + 1) = 0 by have := HJ.out; omega], NX.out (.inl (by omega)) (by rw [HQ0.out, ← Hp.out, HP0.out]), _, rfl⟩, by simp [intOf] <;> omega⟩
          · obtain ⟨j', rfl⟩ : ∃ j', j = j' + 1 := ⟨j - 1, by omega⟩
            have cy := HR2.out.cell j' (by rw [← HLY.out]; omega)
            obtain ⟨q, hq⟩ : ∃ q, q = ys.getD j' 0 := ⟨_, rfl⟩
            rw [← hq] at cy
            have Hq := Lib.hid (hq.trans (TY.out _ rfl).symm)
            have ej : (((j' + 1 : Nat)) : Int) - 1 = (j' : Int) := by omega
            clear hq hj0
            have hjl : j' < ly := by omega
            by_cases h3 : p < q
            · have t3 : decide (p < q) = true := decide_eq_true h3
              go_wp2
              go_ret
              exact ⟨ret_int (LT.out (.inl (by omega)) (by rw [← Hp.out, ← Hq.out]; exact h3)).symm, _, rfl⟩
            · have t3 : decide (p < q) = false := decide_eq_false h3
              by_cases h4 : q < p
              · have t4 : decide (q < p) = true := decide_eq_true h4
                go_wp2
                go_ret
                exact ⟨ret_int (GT.out (.inl (by omega)) (by rw [← Hp.out, ← Hq.out]; exact h4)).symm, _, rfl⟩
              · have t4 : decide (q < p) = false := decide_eq_false h4
                have hpq : p = q := by omega
                have HPQ := Lib.hid hpq
                clear hpq h3 h4
                go_wp2
                refine ⟨⟨k + 1, by rw [show lx - (k + 1) = i' by have := HI.out; omega], by rw [show ly - (k + 1) = j' by have := HJ.out; omega], NX.out (.inl (by omega)) (by rw [← Hp.out, ← Hq.out, HPQ.out]), _, rfl⟩, by simp [intOf] <;> omega⟩
end Go.Proofs.YtgclooabjilniaaDoor
