/-
A region that draws its order, whose operations are told in three lists: those that look at no world, those that read till the first call or store, and the rest, which is in a forced order: one walk in that order serves every order. No condition.
-/
import Derived.Test.YtniingblgkghgaaHoist
namespace Go.Proofs.Ytniingblgkghgaa
section
variable {P : Program} {ops : Array Oper} {C : World → Prop} {Q : Exit → Act → World → Prop} {md : Region.Mode} {hd : Nat → Bool}

def pickOps (ops : Array Oper) (is : List Nat) : List Oper := is.flatMap fun i => (ops[i]?).toList
theorem pickOps_cons {i : Nat} {is : List Nat} {o : Oper} (h : ops[i]? = some o) : pickOps ops (i :: is) = o :: pickOps ops is := by simp [pickOps, h]

/-- The rest of a region in a forced order. -/
def tailBP (md : Region.Mode) (ops : Array Oper) : List Nat → Array Bool → Bool
  | [], listed => (Region.ready md ops listed).isEmpty
  | k :: l, listed =>
    (ops[k]?).isSome && ((Region.ready md ops listed == [k]) || (((ops[k]?).map plainOp).getD false && (Region.ready md ops listed).contains k && Region.free md ops listed k)) &&
      tailBP md ops l (listed.setIfInBounds k true)

theorem wpAny_tailP (hsel : Region.noSelect ops = true) (hQ : Calm Q) : ∀ (l : List Nat) (listed : Array Bool) (a : Act) (w : World),
    tailBP md ops l listed = true → wpList P ops Q (pickOps ops l) a w → wpAny P md ops Q l.length listed a w
  | [], listed, a, w, hB, h => ⟨by simpa [tailBP] using hB, h⟩
  | k :: l, listed, a, w, hB, h => by
    simp only [tailBP, Bool.and_eq_true, Bool.or_eq_true] at hB
    obtain ⟨⟨hs, hB1⟩, hB'⟩ := hB
    obtain ⟨o, h0⟩ := Option.isSome_iff_exists.1 hs
    rw [pickOps_cons h0] at h
    rcases hB1 with hr | ⟨⟨hp, hc⟩, hf⟩
    · have hr' : Region.ready md ops listed = [k] := by simpa using hr
      refine wpAny_all hr' (by simp) fun i hi => ?_
      have : i = k := by simpa using hi
      subst this
      unfold wpOp
      simp only [h0]
      unfold wpList at h
      split
      · rename_i hw
        rw [if_pos hw] at h
        exact h.imp (Oper.wp_mono fun a' w' h' => wpAny_tailP hsel hQ l _ a' w' hB' h') id
      · rename_i hw
        rw [if_neg hw] at h
        exact wpAny_tailP hsel hQ l _ _ w hB' h
    · have hpl : plainOp o = true := by simpa [h0] using hp
      unfold wpList at h
      by_cases hw : Region.wanted o (yielded ops a.tmps) = true
      · rw [if_pos hw] at h
        rcases h with h | ⟨_, a', w', h⟩
        · rcases plainOp_run (P := P) hpl a.eval w with ⟨v, hv⟩ | ⟨s, hs⟩
          · unfold Oper.wp at h
            rw [hv w] at h
            exact wpAny_first h0 (Region.noSelect_spec hsel) (fun c a w h => (hQ.1 c _ w h).elim) l.length listed a w (Region.free_spec h0 hf) (by simpa using hc) (.inl ⟨hw, hv⟩)
              (wpAny_tailP hsel hQ l _ _ w hB' h)
          · unfold Oper.wp at h
            rw [hs] at h
            exact h.elim
        · exact (hQ.2 _ _ h).elim
      · rw [if_neg hw] at h
        exact wpAny_first h0 (Region.noSelect_spec hsel) (fun c a w h => (hQ.1 c _ w h).elim) l.length listed a w (Region.free_spec h0 hf) (by simpa using hc) (.inr ⟨by simpa using hw, rfl⟩)
          (wpAny_tailP hsel hQ l _ _ w hB' h)

/-- Operations that hand back a value or halt. -/
def flatOp (o : Oper) : Bool :=
  match o.op with
  | .move _ | .assign _ | .extract _ _ | .nilCheck _ | .fieldAddr _ _ _ => true
  | _ => false
theorem value_of_then {α : Type} {s : Result α} {f : α → Value} {n : Next} {w' : World} (h : (s.andThen fun x w => Result.ok (Next.value (f x)) w) = .ok n w') : ∃ u, n = .value u := by
  cases s with
  | ok x w1 => simp [Result.andThen] at h; exact ⟨_, h.1.symm⟩
  | halt c w1 => simp [Result.andThen] at h
theorem flatOp_value {o : Oper} (h : flatOp o = true) (ρ : Operand → Value) (w w' : World) (n : Next) (hr : (execOp ρ o).run P w = .ok n w') : ∃ u, n = .value u := by
  obtain ⟨dst, op, type, pos, after, guard⟩ := o
  unfold flatOp at h
  split at h
  · rename_i x heq; simp only at heq; subst heq; cases hr; exact ⟨_, rfl⟩
  · rename_i x heq; simp only at heq; subst heq; cases hr; exact ⟨_, rfl⟩
  · rename_i x i heq; simp only at heq; subst heq
    simp only [execOp, Sem.run_bind, Sem.run_pure] at hr
    exact value_of_then (f := id) hr
  · rename_i x heq; simp only at heq; subst heq
    simp only [execOp] at hr
    split at hr
    · cases hr
    · cases hr
    · cases hr
    · split at hr
      · cases hr
      · simp only [Sem.run_bind] at hr
        cases hb : Sem.run P program w with
        | halt c w1 => rw [hb] at hr; cases hr
        | ok p w1 =>
          rw [hb] at hr
          simp only [Result.andThen_ok] at hr
          generalize Sem.run P (nilAhead _ _ _ _) w1 = R at hr
          cases R with
          | halt c w2 => cases hr
          | ok b w2 =>
            simp only [Result.andThen_ok] at hr
            split at hr
            · cases hr
            · cases hr; exact ⟨_, rfl⟩
      · cases hr; exact ⟨_, rfl⟩
    · cases hr; exact ⟨_, rfl⟩
  · rename_i x y z heq; simp only at heq; subst heq
    simp only [execOp, Sem.run_bind, Sem.run_pure] at hr
    exact value_of_then (f := id) hr
  · cases h

theorem yields_of_flat {o : Oper} {v : Value} {a : Act} (hf : flatOp o = true) (hy : YieldsIn P ops (fun _ => True) o v a) : Yields P ops o v a := by
  rcases hy with ⟨hw, hv⟩ | ⟨hw, hv⟩
  · refine .inl ⟨hw, fun w => ?_⟩
    have h1 := hv w trivial
    unfold Oper.quietAt at h1
    cases hr : (execOp a.eval o).run P w with
    | halt c w' => rw [hr] at h1; exact h1.elim
    | ok n w' =>
      obtain ⟨u, rfl⟩ := flatOp_value hf _ _ _ _ hr
      rw [hr] at h1
      obtain ⟨h2, h3⟩ := h1
      rw [h2, h3]
  · exact .inr ⟨hw, hv⟩
/-- Operations that look at no world, then a forced order. -/
def tailGP (md : Region.Mode) (ops : Array Oper) (ts : List Nat) : List Nat → Array Bool → Bool
  | [], listed => tailBP md ops ts listed
  | k :: l, listed => (ops[k]?).isSome && (Region.ready md ops listed).contains k && Region.free md ops listed k && ((ops[k]?).map flatOp).getD false && tailGP md ops ts l (listed.setIfInBounds k true)
theorem wpAny_tailG (hsel : Region.noSelect ops = true) (hQ : Calm Q) (ts : List Nat) {w : World} : ∀ (l : List Nat) (listed : Array Bool) (a : Act), tailGP md ops ts l listed = true →
    wpQuiet P ops (fun _ => True) (fun a' => wpList P ops Q (pickOps ops ts) a' w) (pickOps ops l) a → wpAny P md ops Q (l.length + ts.length) listed a w
  | [], listed, a, hB, h => by
    simp only [List.length_nil, Nat.zero_add]
    exact wpAny_tailP hsel hQ ts listed a w hB h
  | k :: l, listed, a, hB, h => by
    simp only [tailGP, Bool.and_eq_true] at hB
    obtain ⟨⟨⟨⟨hs1, hr⟩, hf⟩, hfl⟩, hB'⟩ := hB
    obtain ⟨o, h0⟩ := Option.isSome_iff_exists.1 hs1
    rw [pickOps_cons h0] at h
    have hst : qOp P ops (fun _ => True) k (wpQuiet P ops (fun _ => True) (fun a' => wpList P ops Q (pickOps ops ts) a' w) (pickOps ops l)) a := by unfold qOp; simp only [h0]; exact h
    obtain ⟨v, hy, hK⟩ := yieldsIn_of_qOp h0 hst
    have hfl' : flatOp o = true := by simpa [h0] using hfl
    rw [List.length_cons, Nat.add_right_comm]
    exact wpAny_first h0 (Region.noSelect_spec hsel) (fun c a w h => (hQ.1 c _ w h).elim) _ listed a w (Region.free_spec h0 hf) (by simpa using hr) (yields_of_flat hfl' hy)
      (wpAny_tailG hsel hQ ts l _ _ hB' hK)

/-- Till one of the operations outside of the head has come up: the world is one of the class. -/
def wpAnyMP (P : Program) (md : Region.Mode) (ops : Array Oper) (C : World → Prop) (hd : Nat → Bool) (Q : Exit → Act → World → Prop) : Nat → Array Bool → Act → Prop
  | 0, listed, a => Region.ready md ops listed = [] ∧ ∀ w, C w → Q .normal a w
  | fuel + 1, listed, a =>
    (Region.ready md ops listed = [] → ∀ w, C w → Q .normal a w) ∧
    ∀ i ∈ Region.ready md ops listed,
      (hd i = true → qOp P ops C i (wpAnyMP P md ops C hd Q fuel (listed.setIfInBounds i true)) a) ∧
      (hd i = false → ∀ w, C w → wpOp P ops Q i (wpAny P md ops Q fuel (listed.setIfInBounds i true)) a w)

theorem wpAny_of_MP : ∀ (fuel : Nat) (listed : Array Bool) (a : Act) (w : World), C w → wpAnyMP P md ops C hd Q fuel listed a → wpAny P md ops Q fuel listed a w
  | 0, _, _, w, hw, h => ⟨h.1, h.2 w hw⟩
  | fuel + 1, _, _, w, hw, h => ⟨fun h0 => h.1 h0 w hw, fun i hi => by
      cases hin : hd i with
      | true => exact wpOp_of_qOp hw (fun a' w' hw' => wpAny_of_MP fuel _ a' w' hw') ((h.2 i hi).1 hin)
      | false => exact (h.2 i hi).2 hin w hw⟩

def waitsBP (md : Region.Mode) (ops : Array Oper) (hd : Nat → Bool) (k : Nat) (listed : Array Bool) (D : Nat → Bool) : Bool :=
  D k && (List.range ops.size).all fun j => (hd j || D j) && (!D j || (!listed.getD j true && (j == k || ((ops[j]?).map (·.after.any fun e => Region.binds md e && D e.on && decide (e.on < ops.size))).getD false)))
structure WaitsP (md : Region.Mode) (ops : Array Oper) (hd : Nat → Bool) (k : Nat) (D : Nat → Bool) : Prop where
  late : ∀ j, j < ops.size → hd j = false → D j = true
  back : ∀ j oj, ops[j]? = some oj → D j = true → j ≠ k → ∃ e ∈ oj.after, Region.binds md e = true ∧ D e.on = true ∧ e.on < ops.size

theorem wpAnyMP_first {k : Nat} {ok : Oper} {v : Value} {D : Nat → Bool} (hk : ops[k]? = some ok) (hkn : hd k = true) (hsel : ∀ (j : Nat) (o : Oper) cs b, ops[j]? = some o → o.op ≠ .select cs b) (hD : WaitsP md ops hd k D) :
    ∀ (fuel : Nat) (listed : Array Bool) (a : Act),
      (∀ j oj, ops[j]? = some oj → j ≠ k → listed.getD j true = false → (∀ e ∈ oj.after, Region.binds md e = true → e.on ≠ k) → ok.apart ops oj = true) →
      (∀ j, j < ops.size → D j = true → listed.getD j true = false) →
      k ∈ Region.ready md ops listed → YieldsIn P ops C ok v a →
      wpAnyMP P md ops C hd Q fuel (listed.setIfInBounds k true) (a.put ok.dst v) → wpAnyMP P md ops C hd Q (fuel + 1) listed a := by
  intro fuel
  induction fuel with
  | zero =>
    intro listed a _ _ hr hy H
    refine ⟨fun h => (by rw [h] at hr; cases hr), fun j hj => ?_⟩
    by_cases hjk : j = k
    · subst hjk; exact ⟨fun _ => hy.qOp hk H, fun h => by rw [hkn] at h; cases h⟩
    · have := ready_mono hj hjk
      rw [H.1] at this
      cases this
  | succ fuel ih =>
    intro listed a hfree hun hr hy H
    refine ⟨fun h => (by rw [h] at hr; cases hr), fun j hj => ?_⟩
    by_cases hjk : j = k
    · subst hjk; exact ⟨fun _ => hy.qOp hk H, fun h => by rw [hkn] at h; cases h⟩
    · obtain ⟨hjun, oj, hoj, hall⟩ := mem_ready.1 hj
      have hjs : j < ops.size := (Array.getElem?_eq_some_iff.1 hoj).1
      have hjD : D j ≠ true := fun hd => by
        obtain ⟨e, he, hb, hde, hes⟩ := hD.back j oj hoj hd hjk
        have h1 := hall e he hb
        have h0 := hun e.on hes hde
        rcases Nat.lt_or_ge e.on listed.size with h' | h'
        · simp [h'] at h0 h1; rw [h0] at h1; cases h1
        · simp [Array.getElem?_eq_none h'] at h1
      have hjn : hd j = true := by
        cases h : hd j with
        | true => rfl
        | false => exact absurd (hD.late j hjs h) hjD
      refine ⟨fun _ => ?_, fun h => by rw [hjn] at h; cases h⟩
      have h1 := (H.2 j (ready_mono hj hjk)).1 hjn
      have hnot : ∀ e ∈ oj.after, Region.binds md e = true → e.on ≠ k := fun e he hb heq => by
        have h1 := hall e he hb
        have h0 := (mem_ready.1 hr).1
        rw [heq] at h1
        rcases Nat.lt_or_ge k listed.size with h' | h'
        · simp [h'] at h0 h1; rw [h0] at h1; cases h1
        · simp [Array.getElem?_eq_none h'] at h1
      have h2 := qOp_put hoj (hfree j oj hoj hjk hjun hnot) (fun cs b => hsel k ok cs b hk) (fun cs b => hsel j oj cs b hoj) hy h1
      refine qOp_mono (fun a' h3 => ih (listed.setIfInBounds j true) a' ?_ ?_ (ready_mono hr (Ne.symm hjk)) h3.1 ?_) h2
      · intro i oi hi hik hiun hno
        refine hfree i oi hi hik ?_ hno
        by_cases hji : j = i
        · subst hji; exact hjun
        · rw [getD_set_ne true hji] at hiun; exact hiun
      · intro i his hd
        have : j ≠ i := fun e => hjD (e ▸ hd)
        rw [getD_set_ne true this]; exact hun i his hd
      · rw [Array.setIfInBounds_comm _ _ hjk]
        exact h3.2

def headBP (md : Region.Mode) (ops : Array Oper) (hd : Nat → Bool) (gs ts : List Nat) : List Nat → Array Bool → Bool
  | [], listed => ((List.range ops.size).all fun i => !hd i || listed.getD i false) && tailGP md ops ts gs listed
  | k :: l, listed =>
    (ops[k]?).isSome && hd k && (Region.ready md ops listed).contains k && Region.free md ops listed k && waitsBP md ops hd k listed (fun j => (desc md ops k).getD j false) && headBP md ops hd gs ts l (listed.setIfInBounds k true)

theorem wpAnyMP_head (hsel : Region.noSelect ops = true) (hQ : Calm Q) {w0 : World} (hw0 : C w0) (gs ts : List Nat) : ∀ (l : List Nat) (listed : Array Bool) (a : Act),
    headBP md ops hd gs ts l listed = true → wpQuiet P ops C (fun a' => ∀ w, C w → wpQuiet P ops (fun _ => True) (fun a3 => wpList P ops Q (pickOps ops ts) a3 w) (pickOps ops gs) a') (pickOps ops l) a → wpAnyMP P md ops C hd Q (l.length + (gs.length + ts.length)) listed a
  | [], listed, a, hB, h => by
    simp only [headBP, Bool.and_eq_true, List.all_eq_true, List.mem_range, Bool.or_eq_true, Bool.not_eq_true'] at hB
    obtain ⟨hli, ht⟩ := hB
    have key : ∀ w, C w → wpAny P md ops Q (gs.length + ts.length) listed a w := fun w hw => wpAny_tailG hsel hQ ts gs listed a ht (h w hw)
    simp only [List.length_nil, Nat.zero_add]
    cases hf : gs.length + ts.length with
    | zero => rw [hf] at key; exact ⟨(key w0 hw0).1, fun w hw => (key w hw).2⟩
    | succ f =>
      rw [hf] at key
      refine ⟨fun h0 w hw => (key w hw).1 h0, fun i hi => ⟨fun hik => ?_, fun _ w hw => (key w hw).2 i hi⟩⟩
      exfalso
      obtain ⟨hr, oj, hoj, _⟩ := mem_ready.1 hi
      have hs : i < ops.size := (Array.getElem?_eq_some_iff.1 hoj).1
      have h1 := (hli i hs).resolve_left (by rw [hik]; simp)
      rcases Nat.lt_or_ge i listed.size with h' | h'
      · simp [h'] at hr h1; rw [hr] at h1; cases h1
      · simp [Array.getElem?_eq_none h'] at h1
  | k :: l, listed, a, hB, h => by
    simp only [headBP, Bool.and_eq_true] at hB
    obtain ⟨⟨⟨⟨⟨hs, hkn⟩, hr⟩, hf⟩, hw⟩, hB'⟩ := hB
    obtain ⟨o, h0⟩ := Option.isSome_iff_exists.1 hs
    rw [pickOps_cons h0] at h
    have hst : qOp P ops C k (wpQuiet P ops C (fun a' => ∀ w, C w → wpQuiet P ops (fun _ => True) (fun a3 => wpList P ops Q (pickOps ops ts) a3 w) (pickOps ops gs) a') (pickOps ops l)) a := by unfold qOp; simp only [h0]; exact h
    obtain ⟨v, hy, hK⟩ := yieldsIn_of_qOp h0 hst
    have IH := wpAnyMP_head hsel hQ hw0 gs ts l (listed.setIfInBounds k true) (a.put o.dst v) hB' hK
    rw [List.length_cons, Nat.add_right_comm]
    simp only [waitsBP, Bool.and_eq_true, List.all_eq_true, List.mem_range] at hw
    obtain ⟨hDk, hall⟩ := hw
    refine wpAnyMP_first (D := fun j => (desc md ops k).getD j false) h0 hkn (Region.noSelect_spec hsel) ⟨fun j hj hnj => ?_, fun j oj hj hd hjk => ?_⟩ _ listed a (Region.free_spec h0 hf) (fun j hj hd => ?_) (by simpa using hr) hy IH
    · have := (hall j hj).1
      simp only [Bool.or_eq_true] at this
      exact this.resolve_left (by rw [hnj]; simp)
    · have h1 := (hall j (Array.getElem?_eq_some_iff.1 hj).1).2
      simp only [Bool.or_eq_true, Bool.not_eq_true', Bool.and_eq_true, beq_iff_eq, hj, Option.map_some, Option.getD_some] at h1
      rcases h1 with h1 | ⟨_, h1⟩
      · rw [h1] at hd; cases hd
      · obtain ⟨e, he, hb⟩ := Array.any_eq_true'.1 (h1.resolve_left hjk)
        simp only [Bool.and_eq_true, decide_eq_true_eq] at hb
        exact ⟨e, he, hb.1.1, hb.1.2, hb.2⟩
    · have h1 := (hall j hj).2
      simp only [Bool.or_eq_true, Bool.not_eq_true', Bool.and_eq_true] at h1
      rcases h1 with h1 | ⟨h1, _⟩
      · rw [h1] at hd; cases hd
      · exact h1

def flatBP (md : Region.Mode) (ops : Array Oper) (hd : Nat → Bool) (hs gs ts : List Nat) : List Nat → Array Bool → Bool
  | [], listed => headBP md ops hd gs ts hs listed
  | k :: l, listed => (ops[k]?).isSome && (Region.ready md ops listed).contains k && Region.free md ops listed k && ((ops[k]?).map flatOp).getD false && flatBP md ops hd hs gs ts l (listed.setIfInBounds k true)
theorem wpAny_flat (hsel : Region.noSelect ops = true) (hQ : Calm Q) (hs gs ts : List Nat) {w : World} (hw : C w) : ∀ (l : List Nat) (listed : Array Bool) (a : Act), flatBP md ops hd hs gs ts l listed = true →
    wpQuiet P ops (fun _ => True) (fun a1 => wpQuiet P ops C (fun a' => ∀ w, C w → wpQuiet P ops (fun _ => True) (fun a3 => wpList P ops Q (pickOps ops ts) a3 w) (pickOps ops gs) a') (pickOps ops hs) a1) (pickOps ops l) a → wpAny P md ops Q (l.length + (hs.length + (gs.length + ts.length))) listed a w
  | [], listed, a, hB, h => by
    simp only [List.length_nil, Nat.zero_add]
    exact wpAny_of_MP _ _ _ _ hw (wpAnyMP_head hsel hQ hw gs ts hs listed a hB h)
  | k :: l, listed, a, hB, h => by
    simp only [flatBP, Bool.and_eq_true] at hB
    obtain ⟨⟨⟨⟨hs1, hr⟩, hf⟩, hfl⟩, hB'⟩ := hB
    obtain ⟨o, h0⟩ := Option.isSome_iff_exists.1 hs1
    rw [pickOps_cons h0] at h
    have hst : qOp P ops (fun _ => True) k (wpQuiet P ops (fun _ => True) (fun a1 => wpQuiet P ops C (fun a' => ∀ w, C w → wpQuiet P ops (fun _ => True) (fun a3 => wpList P ops Q (pickOps ops ts) a3 w) (pickOps ops gs) a') (pickOps ops hs) a1) (pickOps ops l)) a := by unfold qOp; simp only [h0]; exact h
    obtain ⟨v, hy, hK⟩ := yieldsIn_of_qOp h0 hst
    have hfl' : flatOp o = true := by simpa [h0] using hfl
    rw [List.length_cons, Nat.add_right_comm]
    exact wpAny_first h0 (Region.noSelect_spec hsel) (fun c a w h => (hQ.1 c _ w h).elim) _ listed a w (Region.free_spec h0 hf) (by simpa using hr) (yields_of_flat hfl' hy)
      (wpAny_flat hsel hQ hs gs ts hw l _ _ hB' hK)

def hoistBP (ops : Array Oper) (fs hs gs ts : List Nat) : Bool := Region.noSelect ops && (fs.length + (hs.length + (gs.length + ts.length)) == ops.size) && flatBP .any ops (fun i => hs.contains i || fs.contains i) hs gs ts fs (Array.replicate ops.size false)

/-- THE LAW. -/
theorem wp_region_hoistP {id : Nat} {a : Act} {w : World} {l : List Oper} (fs hs gs ts : List Nat) (hm : P.follows .mixedOrders = true) (hB : hoistBP l.toArray fs hs gs ts = true) (hQ : Calm Q)
    (h : wpQuiet P l.toArray (fun _ => True) (fun a1 => wpQuiet P l.toArray (fun w' => ∃ k, w' = w.drewN k) (fun a' => ∀ w', (∃ k, w' = w.drewN k) → wpQuiet P l.toArray (fun _ => True) (fun a3 => wpList P l.toArray Q (pickOps l.toArray ts) a3 w') (pickOps l.toArray gs) a') (pickOps l.toArray hs) a1) (pickOps l.toArray fs) a) : (Code.region id l.toArray true).wp P Q a w := by
  simp only [hoistBP, Bool.and_eq_true, beq_iff_eq] at hB
  obtain ⟨⟨hsel, hn⟩, hh⟩ := hB
  refine wp_region_any hm ?_
  have hw0 : (fun w' => ∃ k, w' = w.drewN k) ({ w with drawn := w.drawn + 1 } : World) := ⟨1, rfl⟩
  have := wpAny_flat (C := fun w' => ∃ k, w' = w.drewN k) (md := .any) hsel hQ hs gs ts hw0 fs (Array.replicate l.toArray.size false) a hh h
  rw [hn] at this
  exact this

end
end Go.Proofs.Ytniingblgkghgaa
