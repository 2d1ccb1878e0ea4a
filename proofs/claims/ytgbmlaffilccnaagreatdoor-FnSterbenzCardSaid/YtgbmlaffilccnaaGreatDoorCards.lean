/-
  DERIVED. GIVEN WITH THE SEED: THE CARDS: each row of YtgbmlaffilccnaaGreatDoorRows.lean that lists a variable, with what it lists TIED to the program's text (the seventh form; the later family's looks); each row that meets fmt, with fmt's text TOLD by the authors' own Lean function (tested against real Go, not proved from fmt's source: count such statements apart). THE CARD IS WHAT COUNTS. Prove the row's statement (the work); the ties are given (YtgbmlaffilccnaaGreatDoorTie.lean); close each card by the builder's one call (the guide's Derived/Test/ToyasCard.lean, 'card_holds'). Laid BY PROGRAM, IN A SANDBOX (cutbox-door.mjs). By AI agents, Wed Nov 11 2026. No macro, syntax, notation, axiom, sorry.
-/
import Derived.Test.YtgbmlaffilccnaaGreatDoorRows
import GoSem.ClaimSeven
namespace Go.Proofs.YtgbmlaffilccnaaGreatDoor
namespace Rows

/-- THE TIED CARD OF 'laws.FnKept'. -/
def fnKeptCard : Claim7 := { stood := { row := fnKeptRow, standIns := [], harness := (true, "de5804e0e10e65394522e3fe4a9848f735aa223079daadcfdd2d461679eb2fbe"), looks := false }, kinds := [], alts := [], laidByText := true, laidKinds := [.data, .data], laidTests := true, laidLooks := .later }
def FnKeptCardSaid : Prop := Claim7.holds Tryz.pinned (.plain (OpenSpec.ofChange fnKeptSpec)) fnKeptCard

/-- THE TIED CARD OF 'laws.FnSterbenz'. -/
def fnSterbenzCard : Claim7 := { stood := { row := fnSterbenzRow, standIns := [], harness := (true, "de5804e0e10e65394522e3fe4a9848f735aa223079daadcfdd2d461679eb2fbe"), looks := false }, kinds := [], alts := [], laidByText := true, laidKinds := [.data, .data], laidTests := true, laidLooks := .later }
def FnSterbenzCardSaid : Prop := Claim7.holds Tryz.pinned (.plain (OpenSpec.ofChange fnSterbenzSpec)) fnSterbenzCard

/-- THE SECOND FORM's CARD OF 'laws.FnKept'. -/
def fnKeptUptoCard : Claim7 := { stood := { row := fnKeptUptoRow, standIns := [], harness := (true, "de5804e0e10e65394522e3fe4a9848f735aa223079daadcfdd2d461679eb2fbe"), looks := false }, kinds := [], alts := [], laidByText := true, laidKinds := [.data, .data], laidTests := true, laidLooks := .later }
def FnKeptUptoCardSaid : Prop := Claim7.holds Tryz.pinned (.plain (OpenSpec.upto fnKeptSpec)) fnKeptUptoCard

/-- THE SECOND FORM's CARD OF 'laws.FnSterbenz'. -/
def fnSterbenzUptoCard : Claim7 := { stood := { row := fnSterbenzUptoRow, standIns := [], harness := (true, "de5804e0e10e65394522e3fe4a9848f735aa223079daadcfdd2d461679eb2fbe"), looks := false }, kinds := [], alts := [], laidByText := true, laidKinds := [.data, .data], laidTests := true, laidLooks := .later }
def FnSterbenzUptoCardSaid : Prop := Claim7.holds Tryz.pinned (.plain (OpenSpec.upto fnSterbenzSpec)) fnSterbenzUptoCard
end Rows
end Go.Proofs.YtgbmlaffilccnaaGreatDoor
