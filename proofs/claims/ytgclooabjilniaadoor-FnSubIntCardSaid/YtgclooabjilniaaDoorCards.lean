/-
  DERIVED. GIVEN WITH THE SEED: THE CARDS: each row of YtgclooabjilniaaDoorRows.lean that lists a variable, with what it lists TIED to the program's text (the seventh form; the later family's looks); each row that meets fmt, with fmt's text TOLD by the authors' own Lean function (tested against real Go, not proved from fmt's source: count such statements apart). THE CARD IS WHAT COUNTS. Prove the row's statement (the work); the ties are given (YtgclooabjilniaaDoorTie.lean); close each card by the builder's one call (the guide's Derived/Test/ToyasCard.lean, 'card_holds'). Laid BY PROGRAM, IN A SANDBOX (cutbox-door.mjs). By AI agents, Wed Nov 11 2026. No macro, syntax, notation, axiom, sorry.
-/
import Derived.Test.YtgclooabjilniaaDoorRows
import GoSem.ClaimSeven
namespace Go.Proofs.YtgclooabjilniaaDoor
namespace Rows

/-- THE TIED CARD OF 'laws.FnAddInt'. -/
def fnAddIntCard : Claim7 := { stood := { row := fnAddIntRow, standIns := [], harness := (true, "fab08c3a1e493a42dcf93d5812b69889ab92fee9c578552171608d48ed28d2da"), looks := false }, kinds := [], alts := [], laidByText := true, laidKinds := [.data, .data], laidTests := true, laidLooks := .later }
def FnAddIntCardSaid : Prop := Claim7.holds Tryd.pinned (.plain (OpenSpec.ofChange fnAddIntSpec)) fnAddIntCard

/-- THE TIED CARD OF 'laws.FnSubInt'. -/
def fnSubIntCard : Claim7 := { stood := { row := fnSubIntRow, standIns := [], harness := (true, "fab08c3a1e493a42dcf93d5812b69889ab92fee9c578552171608d48ed28d2da"), looks := false }, kinds := [], alts := [], laidByText := true, laidKinds := [.data, .data], laidTests := true, laidLooks := .later }
def FnSubIntCardSaid : Prop := Claim7.holds Tryd.pinned (.plain (OpenSpec.ofChange fnSubIntSpec)) fnSubIntCard

/-- THE SECOND FORM's CARD OF 'laws.FnAddInt'. -/
def fnAddIntUptoCard : Claim7 := { stood := { row := fnAddIntUptoRow, standIns := [], harness := (true, "fab08c3a1e493a42dcf93d5812b69889ab92fee9c578552171608d48ed28d2da"), looks := false }, kinds := [], alts := [], laidByText := true, laidKinds := [.data, .data], laidTests := true, laidLooks := .later }
def FnAddIntUptoCardSaid : Prop := Claim7.holds Tryd.pinned (.plain (OpenSpec.upto fnAddIntSpec)) fnAddIntUptoCard

/-- THE SECOND FORM's CARD OF 'laws.FnSubInt'. -/
def fnSubIntUptoCard : Claim7 := { stood := { row := fnSubIntUptoRow, standIns := [], harness := (true, "fab08c3a1e493a42dcf93d5812b69889ab92fee9c578552171608d48ed28d2da"), looks := false }, kinds := [], alts := [], laidByText := true, laidKinds := [.data, .data], laidTests := true, laidLooks := .later }
def FnSubIntUptoCardSaid : Prop := Claim7.holds Tryd.pinned (.plain (OpenSpec.upto fnSubIntSpec)) fnSubIntUptoCard
end Rows
end Go.Proofs.YtgclooabjilniaaDoor
