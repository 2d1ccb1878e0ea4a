/-
  DERIVED. GIVEN WITH THE SEED: THE CARDS: each row of YtepoeidfkbmenaaGreatDoorRows.lean that lists a variable, with what it lists TIED to the program's text (the seventh form; the later family's looks); each row that meets fmt, with fmt's text TOLD by the authors' own Lean function (tested against real Go, not proved from fmt's source: count such statements apart). THE CARD IS WHAT COUNTS. Prove the row's statement (the work); the ties are given (YtepoeidfkbmenaaGreatDoorTie.lean); close each card by the builder's one call (the guide's Derived/Test/ToyasCard.lean, 'card_holds'). Laid BY PROGRAM, IN A SANDBOX (cutbox-door.mjs). By AI agents, Wed Nov 11 2026. No macro, syntax, notation, axiom, sorry.
-/
import Derived.Test.YtepoeidfkbmenaaGreatDoorRows
import GoSem.ClaimSeven
namespace Go.Proofs.YtepoeidfkbmenaaGreatDoor
namespace Rows

/-- THE TIED CARD OF 'laws.FnAdd'. -/
def fnAddCard : Claim7 := { stood := { row := fnAddRow, standIns := [], harness := (true, "9da6199274f906798f4e1b8b100d3e403792339a45d302b9c3fedd2f97d083e6"), looks := false }, kinds := [], alts := [], laidByText := true, laidKinds := [.data, .data], laidTests := true, laidLooks := .later }
def FnAddCardSaid : Prop := Claim7.holds Tryz.pinned (.plain (OpenSpec.ofChange fnAddSpec)) fnAddCard

/-- THE TIED CARD OF 'laws.FnSub'. -/
def fnSubCard : Claim7 := { stood := { row := fnSubRow, standIns := [], harness := (true, "9da6199274f906798f4e1b8b100d3e403792339a45d302b9c3fedd2f97d083e6"), looks := false }, kinds := [], alts := [], laidByText := true, laidKinds := [.data, .data], laidTests := true, laidLooks := .later }
def FnSubCardSaid : Prop := Claim7.holds Tryz.pinned (.plain (OpenSpec.ofChange fnSubSpec)) fnSubCard

/-- THE TIED CARD OF 'laws.FnSterbenz'. -/
def fnSterbenzCard : Claim7 := { stood := { row := fnSterbenzRow, standIns := [], harness := (true, "9da6199274f906798f4e1b8b100d3e403792339a45d302b9c3fedd2f97d083e6"), looks := false }, kinds := [], alts := [], laidByText := true, laidKinds := [.data, .data], laidTests := true, laidLooks := .later }
def FnSterbenzCardSaid : Prop := Claim7.holds Tryz.pinned (.plain (OpenSpec.ofChange fnSterbenzSpec)) fnSterbenzCard

/-- THE SECOND FORM's CARD OF 'laws.FnAdd'. -/
def fnAddUptoCard : Claim7 := { stood := { row := fnAddUptoRow, standIns := [], harness := (true, "9da6199274f906798f4e1b8b100d3e403792339a45d302b9c3fedd2f97d083e6"), looks := false }, kinds := [], alts := [], laidByText := true, laidKinds := [.data, .data], laidTests := true, laidLooks := .later }
def FnAddUptoCardSaid : Prop := Claim7.holds Tryz.pinned (.plain (OpenSpec.upto fnAddSpec)) fnAddUptoCard

/-- THE SECOND FORM's CARD OF 'laws.FnSub'. -/
def fnSubUptoCard : Claim7 := { stood := { row := fnSubUptoRow, standIns := [], harness := (true, "9da6199274f906798f4e1b8b100d3e403792339a45d302b9c3fedd2f97d083e6"), looks := false }, kinds := [], alts := [], laidByText := true, laidKinds := [.data, .data], laidTests := true, laidLooks := .later }
def FnSubUptoCardSaid : Prop := Claim7.holds Tryz.pinned (.plain (OpenSpec.upto fnSubSpec)) fnSubUptoCard

/-- THE SECOND FORM's CARD OF 'laws.FnSterbenz'. -/
def fnSterbenzUptoCard : Claim7 := { stood := { row := fnSterbenzUptoRow, standIns := [], harness := (true, "9da6199274f906798f4e1b8b100d3e403792339a45d302b9c3fedd2f97d083e6"), looks := false }, kinds := [], alts := [], laidByText := true, laidKinds := [.data, .data], laidTests := true, laidLooks := .later }
def FnSterbenzUptoCardSaid : Prop := Claim7.holds Tryz.pinned (.plain (OpenSpec.upto fnSterbenzSpec)) fnSterbenzUptoCard
end Rows
end Go.Proofs.YtepoeidfkbmenaaGreatDoor
