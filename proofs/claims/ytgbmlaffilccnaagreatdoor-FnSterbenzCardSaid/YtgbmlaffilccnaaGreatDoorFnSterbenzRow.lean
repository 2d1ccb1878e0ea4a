/-
FnSterbenz: for every input the call returns true and leaves its arguments as they were; the tables that it reads are as the program's text lays them. No condition.
-/
import Derived.Test.YtgbmlaffilccnaaGreatDoorK02
import Derived.Test.YtgbmlaffilccnaaGreatDoorK23
import Derived.Test.YtgbmlaffilccnaaGreatDoorK35
import Derived.Test.YtgbmlaffilccnaaGreatDoorCards
import Derived.Test.YtgbmlaffilccnaaGreatDoorTie
import Derived.Test.YtgbmlaffilccnaaGreatDoorFnSterbenzFacts
import Derived.WalkKit
import Derived.ProofKit
import Derived.OpenShut
import Derived.ShutString
import Derived.ChangeOld
import Derived.Below
import Derived.Deep.DeepHandedRow
import Derived.Lib.LaidTab
import Derived.LaidSub
namespace Go.Proofs.YtgbmlaffilccnaaGreatDoor.fnSterbenz
open Go.ChangeShapes Go.WideShapes Go.ChangeAt Go.RowKit

theorem own : ownKnob Tryz.prog.godebug = none := by kernel_rfl
theorem laidOut : laidOutB Tryz.prog = true := by kernel_rfl
theorem gTab : Tryz.prog.globalNamed "math/bits.deBruijn64tab" = some 1 := by kernel_rfl
theorem gTabType : (Tryz.prog.globals[1]?).map (·.type) = some 155 := by kernel_rfl
theorem cellsTab : Tryz.prog.cellsOf 155 = 64 := by kernel_rfl
theorem cellsU8 : Tryz.prog.cellsOf 5 = 1 := by kernel_rfl

set_option maxRecDepth 100000 in
/-- What the row's list gives: the table's cells hold its numbers. -/
theorem table {W : World} (h : laidMetH Tryz.prog Rows.fnSterbenzRow.laid W) : TabW W := by
  have h1 := h.filter fun x => x.1 == "math/bits.deBruijn64tab"
  have h2 : Lib.TabIs Tryz.prog W "math/bits.deBruijn64tab" .u8 (Lib.deBruijn64tab.map Int.ofNat) :=
    Lib.tabIs_of_head (rest := []) gTab gTabType Tryz.underlying155 Tryz.underlying5 cellsU8 cellsTab h1
  intro j hj
  have h3 := h2.cell gTab j (by simpa using hj)
  rw [h3]
  simp only [List.getD_eq_getElem?_getD, List.getElem?_map]
  rw [List.getElem?_eq_getElem hj]; rfl

set_option maxRecDepth 100000 in
/-- What the walk gives, for every argument and every world that holds the table. -/
theorem contract (H : Type) (enc : TypeId × Value → H) (W : World) (base : Nat) (args : Array Value) (ds gs : List (DataW H)) (before : List MemPlace)
    (hval0 : ∀ (j : Nat) t v, Tryz.f4.params[j]? = some t → args[j]? = some v → Value.okWide Tryz.prog W .any base t v)
    (hW : DataW.Whole enc Tryz.prog Tryz.f4.params.toList Rows.fnSterbenzSpec.vars false W args.toList ds gs before) (hL : laidMetH Tryz.prog Rows.fnSterbenzRow.laid W) :
    Calls Tryz.prog 4 args W fun e W' => ∃ v, e = .returned v ∧ Rows.fnSterbenzSpec.post enc Tryz.prog Tryz.f4 false true false false W args v W' := by
  have hval : ∀ (j : Nat) t v, Tryz.f4.params[j]? = some t → args[j]? = some v → Value.okWide Tryz.prog W .any base t v := hval0
  have hW' := hW
  obtain ⟨p, q, hA0, hV, rfl, hfz, hnd⟩ := hW
  have hA : DataW.TrodAll enc Tryz.prog W 0 (fun _ => true) true Tryz.f4.params.toList args.toList ds p := hA0
  rw [Tryz.params4] at hA hval
  obtain ⟨v0, vs0, d0, ds0, p0, q0, hargs, rfl, rfl, h0, r0⟩ := trodAll_cons hA
  obtain ⟨v1, vs1, d1, ds1, p1, q1, rfl, rfl, rfl, h1, r1⟩ := trodAll_cons r0
  obtain ⟨v2, vs2, d2, ds2, p2, q2, rfl, rfl, rfl, h2, r2⟩ := trodAll_cons r1
  obtain ⟨rfl, rfl, rfl⟩ := trodAll_nil r2
  obtain rfl : args = #[v0, v1, v2] := by cases args; simp_all
  obtain ⟨rfl, rfl⟩ := trodVars_none hV
  obtain ⟨a0, rfl, rfl, rfl, w0⟩ := open_int Tryz.underlying5 (hval 0 5 v0 rfl rfl) h0
  have g0 : 0 ≤ a0 ∧ a0 ≤ 255 := by simpa [Lit.wf, IntKind.min, IntKind.max, IntKind.signed, IntKind.bits] using w0
  obtain ⟨rp1, rm1, rf1, rn1, x1, re1, ws1, rfl, hw1, g1⟩ := open_real (hval 1 26 v1 rfl rfl) h1
  have k1 := h1
  have lt1 : ∀ x ∈ p1, x.block < W.heap.size := by obtain ⟨m, hm⟩ := k1; exact DataW.trod_lt m _ _ _ hm
  obtain ⟨rp2, rm2, rf2, rn2, x2, re2, ws2, rfl, hw2, g2⟩ := open_real (hval 2 26 v2 rfl rfl) h2
  have k2 := h2
  have lt2 : ∀ x ∈ p2, x.block < W.heap.size := by obtain ⟨m, hm⟩ := k2; exact DataW.trod_lt m _ _ _ hm
  clear hA0 hval0
  refine (lawSterbenz a0 rp1 rm1 rf1 rn1 x1 re1 ws1 rp2 rm2 rf2 rn2 x2 re2 ws2 W (table hL) g0.1 g0.2 hw1 g1 hw2 g2).mono fun e W' ⟨he, bel⟩ => ?_
  subst he
  exact ⟨_, rfl, _, _, _, [], _, [], hW', trodAll_mk1 (shut_bool Tryz.underlying4 _), (trodAll_cons_mk (shut_int Tryz.underlying5 w0) (trodAll_cons_mk (Below.trod laidOut (by kernel_rfl) (of_decide_eq_true (by kernel_rfl)) k1 bel lt1) (trodAll_cons_mk (Below.trod laidOut (by kernel_rfl) (of_decide_eq_true (by kernel_rfl)) k2 bel lt2) trodAll_mk0))), rfl, bel.frame _, fun h => by cases h⟩

/-- A world for the witness: the settled one, the tables holding what their initialisers lay. -/
def setTab (tab : List Nat) : Obj → Obj
  | .cells _ t frozen => .cells (tab.map fun n => Value.int .u8 (Int.ofNat n)).toArray t frozen
  | o => o
noncomputable def laidWorld (os : Os) : World :=
  { World.holding Tryz.prog os ⟨#[], #[], []⟩ with heap := Array.modify (Array.modify (World.holding Tryz.prog os ⟨#[], #[], []⟩).heap 0 (setTab Lib.deBruijn32tab)) 1 (setTab Lib.deBruijn64tab) }
set_option maxRecDepth 100000 in
theorem laid_met (os : Os) : laidMet Tryz.prog Rows.fnSterbenzRow.laid ((laidWorld os).forCall (fun _ _ => 0) ⟨#[], #[.int .u8 0, .agg #[.int .u64 0, .int .i64 0, .int .i64 0, .bool false, .slice none 0 0, .int .i64 0], .agg #[.int .u64 0, .int .i64 0, .int .i64 0, .bool false, .slice none 0 0, .int .i64 0]], []⟩).memory :=
  laidMet_of_run' 8 (by kernel_rfl) (by kernel_rfl)
set_option maxRecDepth 100000 in
theorem reads0 (os : Os) {H : Type} (enc : TypeId × Value → H) : (DataW.whole enc Tryz.prog ((laidWorld os).forCall (fun _ _ => 0) ⟨#[], #[.int .u8 0, .agg #[.int .u64 0, .int .i64 0, .int .i64 0, .bool false, .slice none 0 0, .int .i64 0], .agg #[.int .u64 0, .int .i64 0, .int .i64 0, .bool false, .slice none 0 0, .int .i64 0]], []⟩).memory Tryz.f4.params.toList Rows.fnSterbenzSpec.vars false #[.int .u8 0, .agg #[.int .u64 0, .int .i64 0, .int .i64 0, .bool false, .slice none 0 0, .int .i64 0], .agg #[.int .u64 0, .int .i64 0, .int .i64 0, .bool false, .slice none 0 0, .int .i64 0]].toList 8).map (fun x => x.2.1.isEmpty) = some true := by kernel_rfl
theorem opt_some {A B C : Type} (o : Option (A × List B × C)) (h : o.map (fun x => x.2.1.isEmpty) = some true) : ∃ a c, o = some (a, [], c) := by
  match o, h with
  | some (a, [], c), _ => exact ⟨a, c, rfl⟩
  | some (a, _ :: _, c), h => cases h
  | none, h => cases h
theorem reads (os : Os) {H : Type} (enc : TypeId × Value → H) : ∃ rd places, DataW.whole enc Tryz.prog ((laidWorld os).forCall (fun _ _ => 0) ⟨#[], #[.int .u8 0, .agg #[.int .u64 0, .int .i64 0, .int .i64 0, .bool false, .slice none 0 0, .int .i64 0], .agg #[.int .u64 0, .int .i64 0, .int .i64 0, .bool false, .slice none 0 0, .int .i64 0]], []⟩).memory Tryz.f4.params.toList Rows.fnSterbenzSpec.vars false #[.int .u8 0, .agg #[.int .u64 0, .int .i64 0, .int .i64 0, .bool false, .slice none 0 0, .int .i64 0], .agg #[.int .u64 0, .int .i64 0, .int .i64 0, .bool false, .slice none 0 0, .int .i64 0]].toList 8 = some (rd, [], places) :=
  opt_some _ (reads0 os enc)

set_option maxRecDepth 100000 in
theorem lifted (os : Os) (started : os.Started) (H : Type) (enc : TypeId × Value → H) (F : Stop.Interp) :
    ReturnsInHanded {} Tryz.checked os 4 .any ((OpenSpec.ofChange Rows.fnSterbenzSpec).preRow enc Tryz.prog Tryz.f4 Rows.fnSterbenzRow.domain false Rows.fnSterbenzRow.laid) (((OpenSpec.ofChange Rows.fnSterbenzSpec).at F).post enc Tryz.prog Tryz.f4 false true false false) := by
  obtain ⟨rd, places, hx⟩ := reads os enc
  refine returnsInHanded_of_row (C := Tryz.checked) (s := OpenSpec.ofChange Rows.fnSterbenzSpec) own started (by kernel_rfl) Tryz.func4
    (witness_row_at (enc := enc) (C := Tryz.checked) false (laidWorld os) #[.int .u8 0, .agg #[.int .u64 0, .int .i64 0, .int .i64 0, .bool false, .slice none 0 0, .int .i64 0], .agg #[.int .u64 0, .int .i64 0, .int .i64 0, .bool false, .slice none 0 0, .int .i64 0]] rfl (by kernel_rfl) (by kernel_rfl) (by kernel_rfl)
      (OpenSpec.preRow_of_cond 8 hx (by kernel_rfl) (fun k hk => by cases hk) (by kernel_rfl) (laid_met os))) ?_
  intro W base args ds gs before hval hW _ _ _ hL _ _
  exact contract H enc W base args ds gs before hval hW hL

theorem said : Rows.FnSterbenzSaid :=
  OpenClaim.holds_of_cond 4 Tryz.f4 rfl rfl rfl rfl rfl rfl rfl ⟨rfl, rfl, rfl, rfl, rfl⟩ rfl rfl rfl rfl rfl (by kernel_rfl) Tryz.func4 facts
    (of_decide_eq_true (by kernel_rfl)) (by unfold Func.isWrapper; first | (rw [if_pos (by decide +kernel)]; kernel_rfl) | (rw [if_neg (by decide +kernel)]; exact ⟨rfl, rfl⟩))
    (fun os started H enc _ F => by rw [OpenClaim.pre_eq_preRow]; exact lifted os started H enc F)

/-- No parameter wants a stand-in; the program's own looks are off: what the card asks. -/
theorem plain (f : FuncId) (fn : Func) (hf : Tryz.pinned.checked.prog.funcNamed Tryz.f4.name = some f) (hfn : Tryz.pinned.checked.prog.funcs[f]? = some fn) :
    false = Tryz.pinned.checked.prog.looks [] ∧ ∀ (j : Nat) t, fn.params[j]? = some t → Tryz.pinned.checked.prog.wantsStandIn t = false := by
  obtain rfl : f = 4 := Option.some.inj ((show Tryz.prog.funcNamed Tryz.f4.name = some 4 by kernel_rfl).symm.trans hf) |>.symm
  obtain rfl : fn = Tryz.f4 := (Option.some.inj (Tryz.func4.symm.trans hfn)).symm
  refine ⟨by kernel_rfl, fun j t ht => ?_⟩
  have hm := Array.mem_of_getElem? ht
  have hall : (Tryz.f4.params.all fun t => Tryz.pinned.checked.prog.wantsStandIn t == false) = true := by kernel_rfl
  simpa using Array.all_eq_true'.1 hall t hm

end Go.Proofs.YtgbmlaffilccnaaGreatDoor.fnSterbenz
