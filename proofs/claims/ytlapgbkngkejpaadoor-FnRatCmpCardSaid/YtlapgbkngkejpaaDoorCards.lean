/-
  DERIVED. GIVEN WITH THE SEED: THE CARDS: each row of YtlapgbkngkejpaaDoorRows.lean that lists a variable, with what it lists TIED to the program's text (the seventh form; the later family's looks); each row that meets fmt, with fmt's text TOLD by the authors' own Lean function (tested against real Go, not proved from fmt's source: count such statements apart). THE CARD IS WHAT COUNTS. Prove the row's statement (the work); the ties are given (YtlapgbkngkejpaaDoorTie.lean); close each card by the builder's one call (the guide's Derived/Test/ToyasCard.lean, 'card_holds'). Laid BY PROGRAM, IN A SANDBOX (cutbox-door.mjs). By AI agents, Wed Nov 11 2026. No macro, syntax, notation, axiom, sorry.
-/
import Derived.Test.YtlapgbkngkejpaaDoorRows
import GoSem.ClaimSeven
namespace Go.Proofs.YtlapgbkngkejpaaDoor
namespace Rows

/-- THE TIED CARD OF 'laws.FnRatCmp'. -/
def fnRatCmpCard : Claim7 := { stood := { row := fnRatCmpRow, standIns := [], harness := (true, "9807c045f87c13d6da8db6af388e0caeb249676753802c2fbc1b9eb2281d8330"), looks := false }, kinds := [], alts := [], laidByText := true, laidKinds := [.data, .data, .data], laidTests := true, laidLooks := .later }
def FnRatCmpCardSaid : Prop := Claim7.holds Tryd.pinned (.plain (OpenSpec.ofChange fnRatCmpSpec)) fnRatCmpCard

/-- THE SECOND FORM's CARD OF 'laws.FnRatCmp'. -/
def fnRatCmpUptoCard : Claim7 := { stood := { row := fnRatCmpUptoRow, standIns := [], harness := (true, "9807c045f87c13d6da8db6af388e0caeb249676753802c2fbc1b9eb2281d8330"), looks := false }, kinds := [], alts := [], laidByText := true, laidKinds := [.data, .data, .data], laidTests := true, laidLooks := .later }
def FnRatCmpUptoCardSaid : Prop := Claim7.holds Tryd.pinned (.plain (OpenSpec.upto fnRatCmpSpec)) fnRatCmpUptoCard
end Rows
end Go.Proofs.YtlapgbkngkejpaaDoor
