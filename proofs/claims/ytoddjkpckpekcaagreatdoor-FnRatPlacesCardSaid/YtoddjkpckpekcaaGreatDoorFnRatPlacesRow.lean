/-
FnRatPlaces: for every input the call returns true and leaves its arguments as they were; the tables that it reads are as the program's text lays them. No condition.
-/
import Derived.Test.YtoddjkpckpekcaaGreatDoorK01
import Derived.Test.YtoddjkpckpekcaaGreatDoorK02
import Derived.Test.YtoddjkpckpekcaaGreatDoorK03
import Derived.Test.YtoddjkpckpekcaaGreatDoorK04
import Derived.Test.YtoddjkpckpekcaaGreatDoorK05
import Derived.Test.YtoddjkpckpekcaaGreatDoorK06
import Derived.Test.YtoddjkpckpekcaaGreatDoorK07
import Derived.Test.YtoddjkpckpekcaaGreatDoorK08
import Derived.Test.YtoddjkpckpekcaaGreatDoorK09
import Derived.Test.YtoddjkpckpekcaaGreatDoorK10
import Derived.Test.YtoddjkpckpekcaaGreatDoorK11
import Derived.Test.YtoddjkpckpekcaaGreatDoorK12
import Derived.Test.YtoddjkpckpekcaaGreatDoorK13
import Derived.Test.YtoddjkpckpekcaaGreatDoorK14
import Derived.Test.YtoddjkpckpekcaaGreatDoorK15
import Derived.Test.YtoddjkpckpekcaaGreatDoorK16
import Derived.Test.YtoddjkpckpekcaaGreatDoorK17
import Derived.Test.YtoddjkpckpekcaaGreatDoorK18
import Derived.Test.YtoddjkpckpekcaaGreatDoorK19
import Derived.Test.YtoddjkpckpekcaaGreatDoorK20
import Derived.Test.YtoddjkpckpekcaaGreatDoorK21
import Derived.Test.YtoddjkpckpekcaaGreatDoorK22
import Derived.Test.YtoddjkpckpekcaaGreatDoorK23
import Derived.Test.YtoddjkpckpekcaaGreatDoorK24
import Derived.Test.YtoddjkpckpekcaaGreatDoorK25
import Derived.Test.YtoddjkpckpekcaaGreatDoorK26
import Derived.Test.YtoddjkpckpekcaaGreatDoorK27
import Derived.Test.YtoddjkpckpekcaaGreatDoorK28
import Derived.Test.YtoddjkpckpekcaaGreatDoorK29
import Derived.Test.YtoddjkpckpekcaaGreatDoorK30
import Derived.Test.YtoddjkpckpekcaaGreatDoorK31
import Derived.Test.YtoddjkpckpekcaaGreatDoorK32
import Derived.Test.YtoddjkpckpekcaaGreatDoorK33
import Derived.Test.YtoddjkpckpekcaaGreatDoorK34
import Derived.Test.YtoddjkpckpekcaaGreatDoorK35
import Derived.Test.YtoddjkpckpekcaaGreatDoorK36
import Derived.Test.YtoddjkpckpekcaaGreatDoorK37
import Derived.Test.YtoddjkpckpekcaaGreatDoorK38
import Derived.Test.YtoddjkpckpekcaaGreatDoorK39
import Derived.Test.YtoddjkpckpekcaaGreatDoorK40
import Derived.Test.YtoddjkpckpekcaaGreatDoorK41
import Derived.Test.YtoddjkpckpekcaaGreatDoorK42
import Derived.Test.YtoddjkpckpekcaaGreatDoorK43
import Derived.Test.YtoddjkpckpekcaaGreatDoorK44
import Derived.Test.YtoddjkpckpekcaaGreatDoorCards
import Derived.Test.YtoddjkpckpekcaaGreatDoorTie
import Derived.Test.YtoddjkpckpekcaaGreatDoorFnRatPlacesFacts
import Derived.WalkKit
import Derived.ProofKit
import Derived.OpenShut
import Derived.ShutString
import Derived.ChangeOld
import Derived.Below
import Derived.Deep.DeepHandedRow
import Derived.Lib.LaidTab
import Derived.LaidSub
import Derived.OpenVars
namespace Go.Proofs.YtoddjkpckpekcaaGreatDoor.fnRatPlaces
open Go.ChangeShapes Go.WideShapes Go.ChangeAt Go.RowKit

theorem own : ownKnob Tryz.prog.godebug = none := by kernel_rfl
theorem laidOut : laidOutB Tryz.prog = true := by kernel_rfl
theorem gTab : Tryz.prog.globalNamed "math/bits.deBruijn64tab" = some 5 := by kernel_rfl
theorem gTabType : (Tryz.prog.globals[5]?).map (·.type) = some 182 := by kernel_rfl
theorem cellsTab : Tryz.prog.cellsOf 182 = 64 := by kernel_rfl
theorem cellsU8 : Tryz.prog.cellsOf 5 = 1 := by kernel_rfl

theorem trodVars_len {H : Type} {enc : TypeId × Value → H} {P : Program} {w : World} {sp : Nat → Bool} : ∀ {ns : List String} {gs : List (DataW H)} {ps : List MemPlace}, DataW.TrodVars enc P w sp ns gs ps → gs.length = ns.length
  | [], [], _, _ => rfl
  | [], _ :: _, _, h => h.elim
  | _ :: _, [], _, h => h.elim
  | _ :: _, _ :: _, _, h => by
    obtain ⟨_, _, _, _, _, _, _, _, _, _, hs, _⟩ := h
    simp [trodVars_len hs]
theorem lenV {A : Type} {l : List A} (h : l.length = 4) : ∃ y0 y1 y2 y3, l = [y0, y1, y2, y3] :=
  match l, h with
  | [y0, y1, y2, y3], _ => ⟨y0, y1, y2, y3, rfl⟩
theorem intVar {P : Program} {W : World} {name : String} {k : IntKind} {z : Int} {rest : List (String × DataW Unit)} {g : Nat} {t : TypeId} (hg : P.globalNamed name = some g) (hty : (P.globals[g]?).map (·.type) = some t) (ht : P.underlying t = some (.int k))
    (h : laidMet P ((name, .lit (.int k z)) :: rest) W) : W.cell? ⟨g, 0, none⟩ = some (.int k z) := by
  obtain ⟨ps, ⟨g', t', cs, fuel, p, q, hg', ht', hvar, hd, _, _⟩, _⟩ := h
  obtain rfl := Option.some.inj (hg.symm.trans hg')
  obtain rfl := Option.some.inj (hty.symm.trans ht')
  obtain ⟨n, hc, hx, -⟩ := DataW.trod_int ht hd
  have hn : n = z := by simpa using (congrArg Prod.fst hx).symm
  subst hn
  have hcs : cs = #[.int k n] := by
    cases cs
    simp_all
  subst hcs
  simpa using World.var?_cell hg hvar 0

set_option maxRecDepth 100000 in
/-- What the row's list gives: the table's cells hold its numbers. -/
theorem table {W : World} (h : laidMetH Tryz.prog Rows.fnRatPlacesRow.laid W) : TabW W := by
  have h1 := h.filter fun x => x.1 == "math/bits.deBruijn64tab"
  have h2 : Lib.TabIs Tryz.prog W "math/bits.deBruijn64tab" .u8 (Lib.deBruijn64tab.map Int.ofNat) :=
    Lib.tabIs_of_head (rest := []) gTab gTabType Tryz.underlying182 Tryz.underlying5 cellsU8 cellsTab h1
  intro j hj
  have h3 := h2.cell gTab j (by simpa using hj)
  rw [h3]
  simp only [List.getD_eq_getElem?_getD, List.getElem?_map]
  rw [List.getElem?_eq_getElem hj]; rfl

theorem kar {W : World} (h : laidMetH Tryz.prog Rows.fnRatPlacesRow.laid W) : KarW W :=
  intVar (rest := []) (by kernel_rfl) (by kernel_rfl) Tryz.underlying3 (h.filter fun x => x.1 == "loop.example/pub-g03235/pub/bigall.karatsubaThreshold")

theorem dvw {W : World} (h : laidMetH Tryz.prog Rows.fnRatPlacesRow.laid W) : DivW W :=
  intVar (rest := []) (by kernel_rfl) (by kernel_rfl) Tryz.underlying3 (h.filter fun x => x.1 == "loop.example/pub-g03235/pub/bigall.divRecursiveThreshold")

theorem sqw {W : World} (h : laidMetH Tryz.prog Rows.fnRatPlacesRow.laid W) : SqrW W :=
  ⟨(intVar (rest := []) (by kernel_rfl) (by kernel_rfl) Tryz.underlying3 (h.filter fun x => x.1 == "loop.example/pub-g03235/pub/bigall.basicSqrThreshold")),
    (intVar (rest := []) (by kernel_rfl) (by kernel_rfl) Tryz.underlying3 (h.filter fun x => x.1 == "loop.example/pub-g03235/pub/bigall.karatsubaSqrThreshold"))⟩

set_option maxRecDepth 100000 in
/-- What the walk gives, for every argument and every world that holds the table. -/
theorem contract (H : Type) (enc : TypeId × Value → H) (W : World) (base : Nat) (args : Array Value) (ds gs : List (DataW H)) (before : List MemPlace)
    (hval0 : ∀ (j : Nat) t v, Tryz.f3.params[j]? = some t → args[j]? = some v → Value.okWide Tryz.prog W .any base t v)
    (hW : DataW.Whole enc Tryz.prog Tryz.f3.params.toList Rows.fnRatPlacesSpec.vars false W args.toList ds gs before) (hL : laidMetH Tryz.prog Rows.fnRatPlacesRow.laid W) :
    Calls Tryz.prog 3 args W fun e W' => ∃ v, e = .returned v ∧ Rows.fnRatPlacesSpec.post enc Tryz.prog Tryz.f3 false true false false W args v W' := by
  have hval : ∀ (j : Nat) t v, Tryz.f3.params[j]? = some t → args[j]? = some v → Value.okWide Tryz.prog W .any base t v := hval0
  have hW' := hW
  obtain ⟨p, q, hA0, hV, rfl, hfz, hnd⟩ := hW
  have hA : DataW.TrodAll enc Tryz.prog W 0 (fun _ => true) true Tryz.f3.params.toList args.toList ds p := hA0
  rw [Tryz.params3] at hA hval
  obtain ⟨v0, vs0, d0, ds0, p0, q0, hargs, rfl, rfl, h0, r0⟩ := trodAll_cons hA
  obtain ⟨rfl, rfl, rfl⟩ := trodAll_nil r0
  obtain rfl : args = #[v0] := by cases args; simp_all
  obtain ⟨y0, y1, y2, y3, rfl⟩ := lenV (show gs.length = 4 from trodVars_len hV)
  obtain ⟨b0, x0, y0, ns0, es0, rfl, hw0, hz0⟩ := open_fraction (hval 0 26 v0 rfl rfl) h0
  have k0 := h0
  have lt0 : ∀ x ∈ p0, x.block < W.heap.size := by obtain ⟨m, hm⟩ := k0; exact DataW.trod_lt m _ _ _ hm
  clear hA0 hval0
  refine (lawPlaces b0 x0 y0 ns0 es0 W (table hL) (kar hL) (dvw hL) (sqw hL) hw0 hz0).mono fun e W' ⟨he, bel⟩ => ?_
  subst he
  exact ⟨_, rfl, _, _, _, [], _, _, hW', trodAll_mk1 (shut_bool Tryz.underlying4 _), (trodAll_cons_mk (Below.trod laidOut (by kernel_rfl) (of_decide_eq_true (by kernel_rfl)) k0 bel lt0) trodAll_mk0), Below.trodVars laidOut bel (by kernel_rfl) hV, bel.frame _, fun h => by cases h⟩

/-- A world for the witness: the settled one, the tables holding what their initialisers lay. -/
def setTab (tab : List Nat) : Obj → Obj
  | .cells _ t frozen => .cells (tab.map fun n => Value.int .u8 (Int.ofNat n)).toArray t frozen
  | o => o
def setInt (z : Int) : Obj → Obj
  | .cells _ t frozen => .cells #[.int .i64 z] t frozen
  | o => o
noncomputable def laidWorld (os : Os) : World :=
  { World.holding Tryz.prog os ⟨#[], #[], []⟩ with heap := Array.modify (Array.modify (Array.modify (Array.modify (Array.modify (Array.modify (World.holding Tryz.prog os ⟨#[], #[], []⟩).heap 4 (setTab Lib.deBruijn32tab)) 5 (setTab Lib.deBruijn64tab)) 3 (setInt 40)) 6 (setInt 40)) 1 (setInt 12)) 2 (setInt 80) }
set_option maxRecDepth 100000 in
theorem laid_met (os : Os) : laidMet Tryz.prog Rows.fnRatPlacesRow.laid ((laidWorld os).forCall (fun _ _ => 0) ⟨#[], #[.agg #[.bool false, .slice none 0 0, .slice none 0 0]], []⟩).memory :=
  laidMet_of_run' 8 (by kernel_rfl) (by kernel_rfl)
set_option maxRecDepth 100000 in
theorem reads0 (os : Os) {H : Type} (enc : TypeId × Value → H) : (DataW.whole enc Tryz.prog ((laidWorld os).forCall (fun _ _ => 0) ⟨#[], #[.agg #[.bool false, .slice none 0 0, .slice none 0 0]], []⟩).memory Tryz.f3.params.toList Rows.fnRatPlacesSpec.vars false #[.agg #[.bool false, .slice none 0 0, .slice none 0 0]].toList 8).isSome = true := by kernel_rfl
theorem reads (os : Os) {H : Type} (enc : TypeId × Value → H) : ∃ rd gl places, DataW.whole enc Tryz.prog ((laidWorld os).forCall (fun _ _ => 0) ⟨#[], #[.agg #[.bool false, .slice none 0 0, .slice none 0 0]], []⟩).memory Tryz.f3.params.toList Rows.fnRatPlacesSpec.vars false #[.agg #[.bool false, .slice none 0 0, .slice none 0 0]].toList 8 = some (rd, gl, places) := by
  obtain ⟨⟨rd, gl, places⟩, hx⟩ := Option.isSome_iff_exists.1 (reads0 os enc)
  exact ⟨rd, gl, places, hx⟩

set_option maxRecDepth 100000 in
theorem lifted (os : Os) (started : os.Started) (H : Type) (enc : TypeId × Value → H) (F : Stop.Interp) :
    ReturnsInHanded {} Tryz.checked os 3 .any ((OpenSpec.ofChange Rows.fnRatPlacesSpec).preRow enc Tryz.prog Tryz.f3 Rows.fnRatPlacesRow.domain false Rows.fnRatPlacesRow.laid) (((OpenSpec.ofChange Rows.fnRatPlacesSpec).at F).post enc Tryz.prog Tryz.f3 false true false false) := by
  obtain ⟨rd, gl, places, hx⟩ := reads os enc
  refine returnsInHanded_of_row (C := Tryz.checked) (s := OpenSpec.ofChange Rows.fnRatPlacesSpec) own started (by kernel_rfl) Tryz.func3
    (witness_row_at (enc := enc) (C := Tryz.checked) false (laidWorld os) #[.agg #[.bool false, .slice none 0 0, .slice none 0 0]] rfl (by kernel_rfl) (by kernel_rfl) (by kernel_rfl)
      (OpenSpec.preRow_of_cond 8 hx (by kernel_rfl) (fun k hk => by cases hk) (by kernel_rfl) (laid_met os))) ?_
  intro W base args ds gs before hval hW _ _ _ hL _ _
  exact contract H enc W base args ds gs before hval hW hL

theorem said : Rows.FnRatPlacesSaid :=
  OpenClaim.holds_of_cond 3 Tryz.f3 rfl rfl rfl rfl rfl rfl rfl ⟨rfl, rfl, rfl, rfl, rfl⟩ rfl rfl rfl rfl rfl (by kernel_rfl) Tryz.func3 facts
    (of_decide_eq_true (by kernel_rfl)) (by unfold Func.isWrapper; first | (rw [if_pos (by decide +kernel)]; kernel_rfl) | (rw [if_neg (by decide +kernel)]; exact ⟨rfl, rfl⟩))
    (fun os started H enc _ F => by rw [OpenClaim.pre_eq_preRow]; exact lifted os started H enc F)

/-- No parameter wants a stand-in; the program's own looks are off: what the card asks. -/
theorem plain (f : FuncId) (fn : Func) (hf : Tryz.pinned.checked.prog.funcNamed Tryz.f3.name = some f) (hfn : Tryz.pinned.checked.prog.funcs[f]? = some fn) :
    false = Tryz.pinned.checked.prog.looks [] ∧ ∀ (j : Nat) t, fn.params[j]? = some t → Tryz.pinned.checked.prog.wantsStandIn t = false := by
  obtain rfl : f = 3 := Option.some.inj ((show Tryz.prog.funcNamed Tryz.f3.name = some 3 by kernel_rfl).symm.trans hf) |>.symm
  obtain rfl : fn = Tryz.f3 := (Option.some.inj (Tryz.func3.symm.trans hfn)).symm
  refine ⟨by kernel_rfl, fun j t ht => ?_⟩
  have hm := Array.mem_of_getElem? ht
  have hall : (Tryz.f3.params.all fun t => Tryz.pinned.checked.prog.wantsStandIn t == false) = true := by kernel_rfl
  simpa using Array.all_eq_true'.1 hall t hm

end Go.Proofs.YtoddjkpckpekcaaGreatDoor.fnRatPlaces
