/-
A region that draws its order, whose operations read till its first call or store, and are then in a forced order: one walk in the order of the text serves every order. No condition.
-/
import Derived.Deep.QuietTactic
import Derived.BigQuiet
namespace Go.Proofs.Ytniingblgkghgaa
section
variable {P : Program} {ops : Array Oper} {C : World → Prop} {Q : Exit → Act → World → Prop} {md : Region.Mode} {n : Nat}

/-- Q lets no panic by, and no want of room. -/
def Calm (Q : Exit → Act → World → Prop) : Prop := (∀ c a w, Q (.panic c) a w → False) ∧ ∀ a w, Q .outgrown a w → False

/-- Operations that yield the same in whatever world. -/
def plainOp (o : Oper) : Bool :=
  match o.op with
  | .move _ | .assign _ | .extract _ _ => true
  | _ => false
theorem plainOp_run {o : Oper} (h : plainOp o = true) (ρ : Operand → Value) (w : World) :
    (∃ v, ∀ w', (execOp ρ o).run P w' = .ok (.value v) w') ∨ ∃ s, (execOp ρ o).run P w = .halt (.stuck s) w := by
  obtain ⟨dst, op, type, pos, after, guard⟩ := o
  unfold plainOp at h
  split at h
  · rename_i x heq; simp only at heq; subst heq; exact .inl ⟨ρ x, fun _ => rfl⟩
  · rename_i x heq; simp only at heq; subst heq; exact .inl ⟨ρ x, fun _ => rfl⟩
  · rename_i x i heq
    simp only at heq; subst heq
    simp only [execOp, Instr.extract]
    cases ρ x <;> try exact .inr ⟨_, rfl⟩
    rename_i vs
    cases hv : vs[i]? with
    | none => right; exact ⟨_, by simp [hv]; rfl⟩
    | some v => left; exact ⟨v, fun _ => by simp [hv]⟩
  · cases h

/-- The rest of a region, from number k on, in a forced order. -/
def tailB (md : Region.Mode) (ops : Array Oper) : Nat → Nat → Array Bool → Bool
  | 0, _, listed => (Region.ready md ops listed).isEmpty
  | g + 1, k, listed =>
    ((Region.ready md ops listed == [k]) || (((ops[k]?).map plainOp).getD false && (Region.ready md ops listed).contains k && Region.free md ops listed k)) &&
      tailB md ops g (k + 1) (listed.setIfInBounds k true)

theorem wpAny_tail (hsel : Region.noSelect ops = true) (hQ : Calm Q) : ∀ (l : List Oper) (k : Nat) (listed : Array Bool) (a : Act) (w : World), (∀ j, l[j]? = ops[k + j]?) →
    tailB md ops l.length k listed = true → wpList P ops Q l a w → wpAny P md ops Q l.length listed a w
  | [], k, listed, a, w, _, hB, h => ⟨by simpa [tailB] using hB, h⟩
  | o :: l, k, listed, a, w, hl, hB, h => by
    have h0 : ops[k]? = some o := by simpa using (hl 0).symm
    have hl' : ∀ j, l[j]? = ops[k + 1 + j]? := fun j => by have := hl (j + 1); simpa [Nat.add_assoc, Nat.add_comm 1 j] using this
    simp only [List.length_cons, tailB, Bool.and_eq_true, Bool.or_eq_true] at hB
    obtain ⟨hB1, hB'⟩ := hB
    rcases hB1 with hr | ⟨⟨hp, hc⟩, hf⟩
    · have hr' : Region.ready md ops listed = [k] := by simpa using hr
      refine wpAny_all hr' (by simp) fun i hi => ?_
      have : i = k := by simpa using hi
      subst this
      unfold wpOp
      simp only [h0]
      unfold wpList at h
      split
      · rename_i hw
        rw [if_pos hw] at h
        exact h.imp (Oper.wp_mono fun a' w' h' => wpAny_tail hsel hQ l (i + 1) _ a' w' hl' hB' h') id
      · rename_i hw
        rw [if_neg hw] at h
        exact wpAny_tail hsel hQ l (i + 1) _ _ w hl' hB' h
    · have hpl : plainOp o = true := by simpa [h0] using hp
      unfold wpList at h
      by_cases hw : Region.wanted o (yielded ops a.tmps) = true
      · rw [if_pos hw] at h
        rcases h with h | ⟨_, a', w', h⟩
        · rcases plainOp_run (P := P) hpl a.eval w with ⟨v, hv⟩ | ⟨s, hs⟩
          · unfold Oper.wp at h
            rw [hv w] at h
            exact wpAny_first h0 (Region.noSelect_spec hsel) (fun c a w h => (hQ.1 c _ w h).elim) l.length listed a w (Region.free_spec h0 hf) (by simpa using hc) (.inl ⟨hw, hv⟩)
              (wpAny_tail hsel hQ l (k + 1) _ _ w hl' hB' h)
          · unfold Oper.wp at h
            rw [hs] at h
            exact h.elim
        · exact (hQ.2 _ _ h).elim
      · rw [if_neg hw] at h
        exact wpAny_first h0 (Region.noSelect_spec hsel) (fun c a w h => (hQ.1 c _ w h).elim) l.length listed a w (Region.free_spec h0 hf) (by simpa using hc) (.inr ⟨by simpa using hw, rfl⟩)
          (wpAny_tail hsel hQ l (k + 1) _ _ w hl' hB' h)

/-- Till one of the operations from number n on has come up: the world is one of the class. -/
def wpAnyM (P : Program) (md : Region.Mode) (ops : Array Oper) (C : World → Prop) (n : Nat) (Q : Exit → Act → World → Prop) : Nat → Array Bool → Act → Prop
  | 0, listed, a => Region.ready md ops listed = [] ∧ ∀ w, C w → Q .normal a w
  | fuel + 1, listed, a =>
    (Region.ready md ops listed = [] → ∀ w, C w → Q .normal a w) ∧
    ∀ i ∈ Region.ready md ops listed,
      (i < n → qOp P ops C i (wpAnyM P md ops C n Q fuel (listed.setIfInBounds i true)) a) ∧
      (n ≤ i → ∀ w, C w → wpOp P ops Q i (wpAny P md ops Q fuel (listed.setIfInBounds i true)) a w)

theorem wpAny_of_M : ∀ (fuel : Nat) (listed : Array Bool) (a : Act) (w : World), C w → wpAnyM P md ops C n Q fuel listed a → wpAny P md ops Q fuel listed a w
  | 0, _, _, w, hw, h => ⟨h.1, h.2 w hw⟩
  | fuel + 1, _, _, w, hw, h => ⟨fun h0 => h.1 h0 w hw, fun i hi => by
      by_cases hin : i < n
      · exact wpOp_of_qOp hw (fun a' w' hw' => wpAny_of_M fuel _ a' w' hw') ((h.2 i hi).1 hin)
      · exact (h.2 i hi).2 (by omega) w hw⟩

/-- D: operations that wait, by one road or another, for number k. -/
def waitsB (md : Region.Mode) (ops : Array Oper) (n k : Nat) (listed : Array Bool) (D : Nat → Bool) : Bool :=
  D k && (List.range ops.size).all fun j => (decide (j < n) || D j) && (!D j || (!listed.getD j true && (j == k || ((ops[j]?).map (·.after.any fun e => Region.binds md e && D e.on && decide (e.on < ops.size))).getD false)))
structure Waits (md : Region.Mode) (ops : Array Oper) (n k : Nat) (D : Nat → Bool) : Prop where
  late : ∀ j, j < ops.size → n ≤ j → D j = true
  back : ∀ j oj, ops[j]? = some oj → D j = true → j ≠ k → ∃ e ∈ oj.after, Region.binds md e = true ∧ D e.on = true ∧ e.on < ops.size

/-- Number k of the head may be taken first: nobody from n on comes up ahead of it. -/
theorem wpAnyM_first {k : Nat} {ok : Oper} {v : Value} {D : Nat → Bool} (hk : ops[k]? = some ok) (hkn : k < n) (hsel : ∀ (j : Nat) (o : Oper) cs b, ops[j]? = some o → o.op ≠ .select cs b) (hD : Waits md ops n k D) :
    ∀ (fuel : Nat) (listed : Array Bool) (a : Act),
      (∀ j oj, ops[j]? = some oj → j ≠ k → listed.getD j true = false → (∀ e ∈ oj.after, Region.binds md e = true → e.on ≠ k) → ok.apart ops oj = true) →
      (∀ j, j < ops.size → D j = true → listed.getD j true = false) →
      k ∈ Region.ready md ops listed → YieldsIn P ops C ok v a →
      wpAnyM P md ops C n Q fuel (listed.setIfInBounds k true) (a.put ok.dst v) → wpAnyM P md ops C n Q (fuel + 1) listed a := by
  intro fuel
  induction fuel with
  | zero =>
    intro listed a _ _ hr hy H
    refine ⟨fun h => (by rw [h] at hr; cases hr), fun j hj => ?_⟩
    by_cases hjk : j = k
    · subst hjk; exact ⟨fun _ => hy.qOp hk H, fun h => by omega⟩
    · have := ready_mono hj hjk
      rw [H.1] at this
      cases this
  | succ fuel ih =>
    intro listed a hfree hun hr hy H
    refine ⟨fun h => (by rw [h] at hr; cases hr), fun j hj => ?_⟩
    by_cases hjk : j = k
    · subst hjk; exact ⟨fun _ => hy.qOp hk H, fun h => by omega⟩
    · obtain ⟨hjun, oj, hoj, hall⟩ := mem_ready.1 hj
      have hjs : j < ops.size := (Array.getElem?_eq_some_iff.1 hoj).1
      have hjD : D j ≠ true := fun hd => by
        obtain ⟨e, he, hb, hde, hes⟩ := hD.back j oj hoj hd hjk
        have h1 := hall e he hb
        have h0 := hun e.on hes hde
        rcases Nat.lt_or_ge e.on listed.size with h' | h'
        · simp [h'] at h0 h1; rw [h0] at h1; cases h1
        · simp [Array.getElem?_eq_none h'] at h1
      have hjn : j < n := by
        rcases Nat.lt_or_ge j n with h | h
        · exact h
        · exact absurd (hD.late j hjs h) hjD
      refine ⟨fun _ => ?_, fun h => by omega⟩
      have h1 := (H.2 j (ready_mono hj hjk)).1 hjn
      have hnot : ∀ e ∈ oj.after, Region.binds md e = true → e.on ≠ k := fun e he hb heq => by
        have h1 := hall e he hb
        have h0 := (mem_ready.1 hr).1
        rw [heq] at h1
        rcases Nat.lt_or_ge k listed.size with h' | h'
        · simp [h'] at h0 h1; rw [h0] at h1; cases h1
        · simp [Array.getElem?_eq_none h'] at h1
      have h2 := qOp_put hoj (hfree j oj hoj hjk hjun hnot) (fun cs b => hsel k ok cs b hk) (fun cs b => hsel j oj cs b hoj) hy h1
      refine qOp_mono (fun a' h3 => ih (listed.setIfInBounds j true) a' ?_ ?_ (ready_mono hr (Ne.symm hjk)) h3.1 ?_) h2
      · intro i oi hi hik hiun hno
        refine hfree i oi hi hik ?_ hno
        by_cases hji : j = i
        · subst hji; exact hjun
        · rw [getD_set_ne true hji] at hiun; exact hiun
      · intro i his hd
        have : j ≠ i := fun e => hjD (e ▸ hd)
        rw [getD_set_ne true this]; exact hun i his hd
      · rw [Array.setIfInBounds_comm _ _ hjk]
        exact h3.2

/-- An operation of the head that yields the same in whatever world may be taken first. -/
theorem wpAnyM_plain {k : Nat} {ok : Oper} {v : Value} (hk : ops[k]? = some ok) (hkn : k < n) (hQ : Calm Q) (hsel : ∀ (j : Nat) (o : Oper) cs b, ops[j]? = some o → o.op ≠ .select cs b) :
    ∀ (fuel : Nat) (listed : Array Bool) (a : Act),
      (∀ j oj, ops[j]? = some oj → j ≠ k → listed.getD j true = false → (∀ e ∈ oj.after, Region.binds md e = true → e.on ≠ k) → ok.apart ops oj = true) →
      k ∈ Region.ready md ops listed → Yields P ops ok v a →
      wpAnyM P md ops C n Q fuel (listed.setIfInBounds k true) (a.put ok.dst v) → wpAnyM P md ops C n Q (fuel + 1) listed a := by
  have toIn : ∀ a, Yields P ops ok v a → YieldsIn P ops C ok v a := fun a h => h.imp (fun ⟨h1, h2⟩ => ⟨h1, fun w _ => by unfold Oper.quietAt; rw [h2 w]; exact ⟨rfl, rfl⟩⟩) id
  intro fuel
  induction fuel with
  | zero =>
    intro listed a _ hr hy H
    refine ⟨fun h => (by rw [h] at hr; cases hr), fun j hj => ?_⟩
    by_cases hjk : j = k
    · subst hjk; exact ⟨fun _ => (toIn a hy).qOp hk H, fun h => by omega⟩
    · have := ready_mono hj hjk
      rw [H.1] at this
      cases this
  | succ fuel ih =>
    intro listed a hfree hr hy H
    refine ⟨fun h => (by rw [h] at hr; cases hr), fun j hj => ?_⟩
    by_cases hjk : j = k
    · subst hjk; exact ⟨fun _ => (toIn a hy).qOp hk H, fun h => by omega⟩
    · obtain ⟨hjun, oj, hoj, hall⟩ := mem_ready.1 hj
      have hnot : ∀ e ∈ oj.after, Region.binds md e = true → e.on ≠ k := fun e he hb heq => by
        have h1 := hall e he hb
        have h0 := (mem_ready.1 hr).1
        rw [heq] at h1
        rcases Nat.lt_or_ge k listed.size with h' | h'
        · simp [h'] at h0 h1; rw [h0] at h1; cases h1
        · simp [Array.getElem?_eq_none h'] at h1
      have hap := hfree j oj hoj hjk hjun hnot
      obtain ⟨hp1, hp2, hp3⟩ := Oper.apart_spec hap
      have hfree' : ∀ i oi, ops[i]? = some oi → i ≠ k → (listed.setIfInBounds j true).getD i true = false →
          (∀ e ∈ oi.after, Region.binds md e = true → e.on ≠ k) → ok.apart ops oi = true := fun i oi hi hik hiun hno => by
        refine hfree i oi hi hik ?_ hno
        by_cases hji : j = i
        · subst hji; exact hjun
        · rw [getD_set_ne true hji] at hiun; exact hiun
      refine ⟨fun hjn => ?_, fun hjn w hw => ?_⟩
      · have h1 := (H.2 j (ready_mono hj hjk)).1 hjn
        obtain ⟨u, hu, hK⟩ := yieldsIn_of_qOp hoj h1
        have hu' : YieldsIn P ops C oj u a := hu.of_same (execOp_put oj (fun cs b => hsel j oj cs b hoj) a ok.dst v hp1).symm (wanted_put oj a ok.dst v hp1).symm
        refine hu'.qOp hoj (ih _ _ hfree' (ready_mono hr (Ne.symm hjk)) ?_ ?_)
        · exact hy.of_same (execOp_put ok (fun cs b => hsel k ok cs b hk) a oj.dst u hp3) (wanted_put ok a oj.dst u hp3)
        · rw [Array.setIfInBounds_comm _ _ hjk, ← Act.put_comm a v u hp2]
          exact hK
      · have h1 := (H.2 j (ready_mono hj hjk)).2 hjn w hw
        have h2 := wpOp_put hoj hap (fun cs b => hsel k ok cs b hk) (fun cs b => hsel j oj cs b hoj) (fun c a w h => (hQ.1 c _ w h).elim) hy h1
        refine wpOp_mono (fun a' w' h3 => wpAny_first hk hsel (fun c a w h => (hQ.1 c _ w h).elim) fuel _ a' w' hfree' (ready_mono hr (Ne.symm hjk)) h3.1 ?_) h2
        rw [Array.setIfInBounds_comm _ _ hjk]
        exact h3.2

/-- The operations that wait for number k, reckoned in the order of the text. -/
def desc (md : Region.Mode) (ops : Array Oper) (k : Nat) : Array Bool :=
  (List.range ops.size).foldl (fun acc j => acc.push (j == k || ((ops[j]?).map (·.after.any fun e => Region.binds md e && acc.getD e.on false)).getD false)) #[]

def headB (md : Region.Mode) (ops : Array Oper) (n : Nat) : Nat → Nat → Array Bool → Bool
  | 0, k, listed => tailB md ops (ops.size - n) k listed
  | h + 1, k, listed =>
    (Region.ready md ops listed).contains k && Region.free md ops listed k &&
      (((ops[k]?).map plainOp).getD false || waitsB md ops n k listed (fun j => (desc md ops k).getD j false)) && headB md ops n h (k + 1) (listed.setIfInBounds k true)

theorem wpAnyM_head (hsel : Region.noSelect ops = true) (hQ : Calm Q) {w0 : World} (hw0 : C w0) : ∀ (l : List Oper) (k : Nat) (listed : Array Bool) (a : Act) (Lq : List Oper), (∀ j, (l ++ Lq)[j]? = ops[k + j]?) → k + l.length = n → Lq.length = ops.size - n → (∀ i, i < k → listed.getD i true = true) →
    headB md ops n l.length k listed = true → wpQuiet P ops C (fun a' => ∀ w, C w → wpList P ops Q Lq a' w) l a → wpAnyM P md ops C n Q (l.length + Lq.length) listed a
  | [], k, listed, a, Lq, hl, hk, hL, hli, hB, h => by
    have hkn : k = n := by simpa using hk
    subst hkn
    have ht : tailB md ops Lq.length k listed = true := by rw [hL]; simpa [headB] using hB
    have key : ∀ w, C w → wpAny P md ops Q Lq.length listed a w := fun w hw => wpAny_tail hsel hQ Lq k listed a w (by simpa using hl) ht (h w hw)
    simp only [List.length_nil, Nat.zero_add]
    cases hf : Lq.length with
    | zero => rw [hf] at key; exact ⟨(key w0 hw0).1, fun w hw => (key w hw).2⟩
    | succ f =>
      rw [hf] at key
      refine ⟨fun h0 w hw => (key w hw).1 h0, fun i hi => ⟨fun hik => ?_, fun _ w hw => (key w hw).2 i hi⟩⟩
      exfalso
      have hr := (mem_ready.1 hi).1
      rw [hli i hik] at hr
      cases hr
  | o :: l, k, listed, a, Lq, hl, hk, hL, hli, hB, h => by
    have h0 : ops[k]? = some o := by simpa using (hl 0).symm
    have hkn : k < n := by simp only [List.length_cons] at hk; omega
    simp only [List.length_cons, headB, Bool.and_eq_true, Bool.or_eq_true] at hB
    obtain ⟨⟨⟨hr, hf⟩, hkind⟩, hB'⟩ := hB
    have hst : qOp P ops C k (wpQuiet P ops C (fun a' => ∀ w, C w → wpList P ops Q Lq a' w) l) a := by unfold qOp; simp only [h0]; exact h
    obtain ⟨v, hy, hK⟩ := yieldsIn_of_qOp h0 hst
    have IH := wpAnyM_head hsel hQ hw0 l (k + 1) (listed.setIfInBounds k true) (a.put o.dst v) Lq (fun j => by have := hl (j + 1); simpa [Nat.add_assoc, Nat.add_comm 1 j] using this) (by simp only [List.length_cons] at hk; omega) hL (fun i hi => by
      by_cases hik : k = i
      · subst hik
        rcases Nat.lt_or_ge k listed.size with h' | h'
        · simp [h']
        · simp [h']
      · rw [getD_set_ne true hik]; exact hli i (by omega)) hB' hK
    rw [List.length_cons, Nat.add_right_comm]
    rcases hkind with hp | hw
    · have hpl : plainOp o = true := by simpa [h0] using hp
      refine wpAnyM_plain h0 hkn hQ (Region.noSelect_spec hsel) _ listed a (Region.free_spec h0 hf) (by simpa using hr) ?_ IH
      rcases hy with ⟨hw1, hv⟩ | ⟨hw1, rfl⟩
      · rcases plainOp_run (P := P) hpl a.eval w0 with ⟨u, hu⟩ | ⟨s, hs⟩
        · have := hv w0 hw0
          unfold Oper.quietAt at this
          rw [hu w0] at this
          obtain ⟨_, rfl⟩ := this
          exact .inl ⟨hw1, hu⟩
        · have := hv w0 hw0
          unfold Oper.quietAt at this
          rw [hs] at this
          exact this.elim
      · exact .inr ⟨hw1, rfl⟩
    · simp only [waitsB, Bool.and_eq_true, List.all_eq_true, List.mem_range] at hw
      obtain ⟨hDk, hall⟩ := hw
      refine wpAnyM_first (D := fun j => (desc md ops k).getD j false) h0 hkn (Region.noSelect_spec hsel) ⟨fun j hj hnj => ?_, fun j oj hj hd hjk => ?_⟩ _ listed a (Region.free_spec h0 hf) (fun j hj hd => ?_) (by simpa using hr) hy IH
      · have := (hall j hj).1
        simp only [Bool.or_eq_true, decide_eq_true_eq] at this
        exact this.resolve_left (by omega)
      · have h1 := (hall j (Array.getElem?_eq_some_iff.1 hj).1).2
        simp only [Bool.or_eq_true, Bool.not_eq_true', Bool.and_eq_true, beq_iff_eq, hj, Option.map_some, Option.getD_some] at h1
        rcases h1 with h1 | ⟨_, h1⟩
        · rw [h1] at hd; cases hd
        · obtain ⟨e, he, hb⟩ := Array.any_eq_true'.1 (h1.resolve_left hjk)
          simp only [Bool.and_eq_true, decide_eq_true_eq] at hb
          exact ⟨e, he, hb.1.1, hb.1.2, hb.2⟩
      · have h1 := (hall j hj).2
        simp only [Bool.or_eq_true, Bool.not_eq_true', Bool.and_eq_true] at h1
        rcases h1 with h1 | ⟨h1, _⟩
        · rw [h1] at hd; cases hd
        · exact h1

def hoistB (ops : Array Oper) (n : Nat) : Bool := Region.noSelect ops && decide (n ≤ ops.size) && headB .any ops n n 0 (Array.replicate ops.size false)

/-- THE LAW: a region that draws its order: its first n operations read (or call what reads), in the order of the text; then the rest is walked as it stands. -/
theorem wp_region_hoist {id : Nat} {a : Act} {w : World} {l : List Oper} (n : Nat) (hm : P.follows .mixedOrders = true) (hB : hoistB l.toArray n = true) (hQ : Calm Q)
    (h : wpQuiet P l.toArray (fun w' => ∃ k, w' = w.drewN k) (fun a' => ∀ w', (∃ k, w' = w.drewN k) → wpList P l.toArray Q (l.drop n) a' w') (l.take n) a) : (Code.region id l.toArray true).wp P Q a w := by
  simp only [hoistB, Bool.and_eq_true, decide_eq_true_eq] at hB
  obtain ⟨⟨hsel, hn⟩, hh⟩ := hB
  have hn' : n ≤ l.length := by simpa using hn
  have h1 : (l.take n).length = n := by simp; omega
  have h2 : (l.drop n).length = l.toArray.size - n := by simp
  refine wp_region_any hm ?_
  have hw0 : (fun w' => ∃ k, w' = w.drewN k) ({ w with drawn := w.drawn + 1 } : World) := ⟨1, rfl⟩
  have := wpAnyM_head (C := fun w' => ∃ k, w' = w.drewN k) (md := .any) hsel hQ hw0 (l.take n) 0 (Array.replicate l.toArray.size false) a (l.drop n) (fun j => by simp) (by simpa using h1) h2
    (fun i hi => by omega) (by rw [h1]; exact hh) h
  have h3 : (l.take n).length + (l.drop n).length = l.toArray.size := by rw [h1, h2]; omega
  rw [h3] at this
  exact wpAny_of_M _ _ _ _ hw0 this

end
end Go.Proofs.Ytniingblgkghgaa
