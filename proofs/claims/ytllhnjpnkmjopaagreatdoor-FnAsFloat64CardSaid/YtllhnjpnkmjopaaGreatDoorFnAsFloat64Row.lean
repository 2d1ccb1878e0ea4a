/-
FnAsFloat64: for every input the call returns true and leaves its arguments as they were; the tables that it reads are as the program's text lays them. No condition.
-/
import Derived.Test.YtllhnjpnkmjopaaGreatDoorK02
import Derived.Test.YtllhnjpnkmjopaaGreatDoorK46
import Derived.Test.YtllhnjpnkmjopaaGreatDoorCards
import Derived.Test.YtllhnjpnkmjopaaGreatDoorTie
import Derived.Test.YtllhnjpnkmjopaaGreatDoorFnAsFloat64Facts
import Derived.WalkKit
import Derived.ProofKit
import Derived.OpenShut
import Derived.ShutString
import Derived.ChangeOld
import Derived.Below
import Derived.Deep.DeepHandedRow
import Derived.Lib.LaidTab
import Derived.LaidSub
import Derived.OpenVars
namespace Go.Proofs.YtllhnjpnkmjopaaGreatDoor.fnAsFloat64
open Go.ChangeShapes Go.WideShapes Go.ChangeAt Go.RowKit

theorem own : ownKnob Tryz.prog.godebug = none := by kernel_rfl
theorem laidOut : laidOutB Tryz.prog = true := by kernel_rfl
theorem gTab : Tryz.prog.globalNamed "math/bits.deBruijn64tab" = some 6 := by kernel_rfl
theorem gTabType : (Tryz.prog.globals[6]?).map (·.type) = some 230 := by kernel_rfl
theorem cellsTab : Tryz.prog.cellsOf 230 = 64 := by kernel_rfl
theorem cellsU8 : Tryz.prog.cellsOf 5 = 1 := by kernel_rfl

theorem trodVars_len {H : Type} {enc : TypeId × Value → H} {P : Program} {w : World} {sp : Nat → Bool} : ∀ {ns : List String} {gs : List (DataW H)} {ps : List MemPlace}, DataW.TrodVars enc P w sp ns gs ps → gs.length = ns.length
  | [], [], _, _ => rfl
  | [], _ :: _, _, h => h.elim
  | _ :: _, [], _, h => h.elim
  | _ :: _, _ :: _, _, h => by
    obtain ⟨_, _, _, _, _, _, _, _, _, _, hs, _⟩ := h
    simp [trodVars_len hs]
theorem lenV {A : Type} {l : List A} (h : l.length = 4) : ∃ y0 y1 y2 y3, l = [y0, y1, y2, y3] :=
  match l, h with
  | [y0, y1, y2, y3], _ => ⟨y0, y1, y2, y3, rfl⟩
theorem intVar {P : Program} {W : World} {name : String} {k : IntKind} {z : Int} {rest : List (String × DataW Unit)} {g : Nat} {t : TypeId} (hg : P.globalNamed name = some g) (hty : (P.globals[g]?).map (·.type) = some t) (ht : P.underlying t = some (.int k))
    (h : laidMet P ((name, .lit (.int k z)) :: rest) W) : W.cell? ⟨g, 0, none⟩ = some (.int k z) := by
  obtain ⟨ps, ⟨g', t', cs, fuel, p, q, hg', ht', hvar, hd, _, _⟩, _⟩ := h
  obtain rfl := Option.some.inj (hg.symm.trans hg')
  obtain rfl := Option.some.inj (hty.symm.trans ht')
  obtain ⟨n, hc, hx, -⟩ := DataW.trod_int ht hd
  have hn : n = z := by simpa using (congrArg Prod.fst hx).symm
  subst hn
  have hcs : cs = #[.int k n] := by
    cases cs
    simp_all
  subst hcs
  simpa using World.var?_cell hg hvar 0

set_option maxRecDepth 100000 in
/-- What the row's list gives: the table's cells hold its numbers. -/
theorem table {W : World} (h : laidMetH Tryz.prog Rows.fnAsFloat64Row.laid W) : TabW W := by
  have h1 := h.filter fun x => x.1 == "math/bits.deBruijn64tab"
  have h2 : Lib.TabIs Tryz.prog W "math/bits.deBruijn64tab" .u8 (Lib.deBruijn64tab.map Int.ofNat) :=
    Lib.tabIs_of_head (rest := []) gTab gTabType Tryz.underlying230 Tryz.underlying5 cellsU8 cellsTab h1
  intro j hj
  have h3 := h2.cell gTab j (by simpa using hj)
  rw [h3]
  simp only [List.getD_eq_getElem?_getD, List.getElem?_map]
  rw [List.getElem?_eq_getElem hj]; rfl

theorem kar {W : World} (h : laidMetH Tryz.prog Rows.fnAsFloat64Row.laid W) : KarW W :=
  intVar (rest := []) (by kernel_rfl) (by kernel_rfl) Tryz.underlying3 (h.filter fun x => x.1 == "loop.example/pub-g03235/pub/bigall.karatsubaThreshold")

theorem dvw {W : World} (h : laidMetH Tryz.prog Rows.fnAsFloat64Row.laid W) : DivW W :=
  intVar (rest := []) (by kernel_rfl) (by kernel_rfl) Tryz.underlying3 (h.filter fun x => x.1 == "loop.example/pub-g03235/pub/bigall.divRecursiveThreshold")

set_option maxRecDepth 100000 in
/-- What the walk gives, for every argument and every world that holds the table. -/
theorem contract (H : Type) (enc : TypeId × Value → H) (W : World) (base : Nat) (args : Array Value) (ds gs : List (DataW H)) (before : List MemPlace)
    (hval0 : ∀ (j : Nat) t v, Tryz.f7.params[j]? = some t → args[j]? = some v → Value.okWide Tryz.prog W .any base t v)
    (hW : DataW.Whole enc Tryz.prog Tryz.f7.params.toList Rows.fnAsFloat64Spec.vars false W args.toList ds gs before) (hL : laidMetH Tryz.prog Rows.fnAsFloat64Row.laid W) :
    Calls Tryz.prog 7 args W fun e W' => ∃ v, e = .returned v ∧ Rows.fnAsFloat64Spec.post enc Tryz.prog Tryz.f7 false true false false W args v W' := by
  have hval : ∀ (j : Nat) t v, Tryz.f7.params[j]? = some t → args[j]? = some v → Value.okWide Tryz.prog W .any base t v := hval0
  have hW' := hW
  obtain ⟨p, q, hA0, hV, rfl, hfz, hnd⟩ := hW
  have hA : DataW.TrodAll enc Tryz.prog W 0 (fun _ => true) true Tryz.f7.params.toList args.toList ds p := hA0
  rw [Tryz.params7] at hA hval
  obtain ⟨v0, vs0, d0, ds0, p0, q0, hargs, rfl, rfl, h0, r0⟩ := trodAll_cons hA
  obtain ⟨v1, vs1, d1, ds1, p1, q1, rfl, rfl, rfl, h1, r1⟩ := trodAll_cons r0
  obtain ⟨v2, vs2, d2, ds2, p2, q2, rfl, rfl, rfl, h2, r2⟩ := trodAll_cons r1
  obtain ⟨rfl, rfl, rfl⟩ := trodAll_nil r2
  obtain rfl : args = #[v0, v1, v2] := by cases args; simp_all
  obtain ⟨y0, y1, y2, y3, rfl⟩ := lenV (show gs.length = 4 from trodVars_len hV)
  obtain ⟨a0, rfl, rfl, rfl, w0⟩ := open_int Tryz.underlying5 (hval 0 5 v0 rfl rfl) h0
  have g0 : 0 ≤ a0 ∧ a0 ≤ 255 := by simpa [Lit.wf, IntKind.min, IntKind.max, IntKind.signed, IntKind.bits] using w0
  obtain ⟨a1, rfl, rfl, rfl, w1⟩ := open_flt Tryz.underlying62 (hval 1 62 v1 rfl rfl) h1
  have g1 : a1 < 18446744073709551616 := by simpa [Lit.wf] using w1
  obtain ⟨a2, rfl, rfl, rfl, w2⟩ := open_flt Tryz.underlying62 (hval 2 62 v2 rfl rfl) h2
  have g2 : a2 < 18446744073709551616 := by simpa [Lit.wf] using w2
  clear hA0 hval0
  refine (lawAsFloat64 a0 a1 a2 W (table hL) (kar hL) (dvw hL) g0.1 g0.2 g1 g2).mono fun e W' ⟨he, bel⟩ => ?_
  subst he
  exact ⟨_, rfl, _, _, _, [], _, _, hW', trodAll_mk1 (shut_bool Tryz.underlying4 _), (trodAll_cons_mk (shut_int Tryz.underlying5 w0) (trodAll_cons_mk (shut_flt Tryz.underlying62 w1) (trodAll_cons_mk (shut_flt Tryz.underlying62 w2) trodAll_mk0))), Below.trodVars laidOut bel (by kernel_rfl) hV, bel.frame _, fun h => by cases h⟩

/-- A world for the witness: the settled one, the tables holding what their initialisers lay. -/
def setTab (tab : List Nat) : Obj → Obj
  | .cells _ t frozen => .cells (tab.map fun n => Value.int .u8 (Int.ofNat n)).toArray t frozen
  | o => o
def setInt (z : Int) : Obj → Obj
  | .cells _ t frozen => .cells #[.int .i64 z] t frozen
  | o => o
noncomputable def laidWorld (os : Os) : World :=
  { World.holding Tryz.prog os ⟨#[], #[], []⟩ with heap := Array.modify (Array.modify (Array.modify (Array.modify (Array.modify (Array.modify (World.holding Tryz.prog os ⟨#[], #[], []⟩).heap 5 (setTab Lib.deBruijn32tab)) 6 (setTab Lib.deBruijn64tab)) 4 (setInt 40)) 3 (setInt 40)) 1 (setInt 12)) 2 (setInt 80) }
set_option maxRecDepth 100000 in
theorem laid_met (os : Os) : laidMet Tryz.prog Rows.fnAsFloat64Row.laid ((laidWorld os).forCall (fun _ _ => 0) ⟨#[], #[.int .u8 0, .float .f64 0, .float .f64 0], []⟩).memory :=
  laidMet_of_run' 8 (by kernel_rfl) (by kernel_rfl)
set_option maxRecDepth 100000 in
theorem reads0 (os : Os) {H : Type} (enc : TypeId × Value → H) : (DataW.whole enc Tryz.prog ((laidWorld os).forCall (fun _ _ => 0) ⟨#[], #[.int .u8 0, .float .f64 0, .float .f64 0], []⟩).memory Tryz.f7.params.toList Rows.fnAsFloat64Spec.vars false #[.int .u8 0, .float .f64 0, .float .f64 0].toList 8).isSome = true := by kernel_rfl
theorem reads (os : Os) {H : Type} (enc : TypeId × Value → H) : ∃ rd gl places, DataW.whole enc Tryz.prog ((laidWorld os).forCall (fun _ _ => 0) ⟨#[], #[.int .u8 0, .float .f64 0, .float .f64 0], []⟩).memory Tryz.f7.params.toList Rows.fnAsFloat64Spec.vars false #[.int .u8 0, .float .f64 0, .float .f64 0].toList 8 = some (rd, gl, places) := by
  obtain ⟨⟨rd, gl, places⟩, hx⟩ := Option.isSome_iff_exists.1 (reads0 os enc)
  exact ⟨rd, gl, places, hx⟩

set_option maxRecDepth 100000 in
theorem lifted (os : Os) (started : os.Started) (H : Type) (enc : TypeId × Value → H) (F : Stop.Interp) :
    ReturnsInHanded {} Tryz.checked os 7 .any ((OpenSpec.ofChange Rows.fnAsFloat64Spec).preRow enc Tryz.prog Tryz.f7 Rows.fnAsFloat64Row.domain false Rows.fnAsFloat64Row.laid) (((OpenSpec.ofChange Rows.fnAsFloat64Spec).at F).post enc Tryz.prog Tryz.f7 false true false false) := by
  obtain ⟨rd, gl, places, hx⟩ := reads os enc
  refine returnsInHanded_of_row (C := Tryz.checked) (s := OpenSpec.ofChange Rows.fnAsFloat64Spec) own started (by kernel_rfl) Tryz.func7
    (witness_row_at (enc := enc) (C := Tryz.checked) false (laidWorld os) #[.int .u8 0, .float .f64 0, .float .f64 0] rfl (by kernel_rfl) (by kernel_rfl) (by kernel_rfl)
      (OpenSpec.preRow_of_cond 8 hx (by kernel_rfl) (fun k hk => by cases hk) (by kernel_rfl) (laid_met os))) ?_
  intro W base args ds gs before hval hW _ _ _ hL _ _
  exact contract H enc W base args ds gs before hval hW hL

theorem said : Rows.FnAsFloat64Said :=
  OpenClaim.holds_of_cond 7 Tryz.f7 rfl rfl rfl rfl rfl rfl rfl ⟨rfl, rfl, rfl, rfl, rfl⟩ rfl rfl rfl rfl rfl (by kernel_rfl) Tryz.func7 facts
    (of_decide_eq_true (by kernel_rfl)) (by unfold Func.isWrapper; first | (rw [if_pos (by decide +kernel)]; kernel_rfl) | (rw [if_neg (by decide +kernel)]; exact ⟨rfl, rfl⟩))
    (fun os started H enc _ F => by rw [OpenClaim.pre_eq_preRow]; exact lifted os started H enc F)

/-- No parameter wants a stand-in; the program's own looks are off: what the card asks. -/
theorem plain (f : FuncId) (fn : Func) (hf : Tryz.pinned.checked.prog.funcNamed Tryz.f7.name = some f) (hfn : Tryz.pinned.checked.prog.funcs[f]? = some fn) :
    false = Tryz.pinned.checked.prog.looks [] ∧ ∀ (j : Nat) t, fn.params[j]? = some t → Tryz.pinned.checked.prog.wantsStandIn t = false := by
  obtain rfl : f = 7 := Option.some.inj ((show Tryz.prog.funcNamed Tryz.f7.name = some 7 by kernel_rfl).symm.trans hf) |>.symm
  obtain rfl : fn = Tryz.f7 := (Option.some.inj (Tryz.func7.symm.trans hfn)).symm
  refine ⟨by kernel_rfl, fun j t ht => ?_⟩
  have hm := Array.mem_of_getElem? ht
  have hall : (Tryz.f7.params.all fun t => Tryz.pinned.checked.prog.wantsStandIn t == false) = true := by kernel_rfl
  simpa using Array.all_eq_true'.1 hall t hm

end Go.Proofs.YtllhnjpnkmjopaaGreatDoor.fnAsFloat64
