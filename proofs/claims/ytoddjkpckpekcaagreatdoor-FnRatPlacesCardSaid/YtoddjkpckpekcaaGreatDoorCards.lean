/-
  DERIVED. GIVEN WITH THE SEED: THE CARDS: each row of YtoddjkpckpekcaaGreatDoorRows.lean that lists a variable, with what it lists TIED to the program's text (the seventh form; the later family's looks); each row that meets fmt, with fmt's text TOLD by the authors' own Lean function (tested against real Go, not proved from fmt's source: count such statements apart). THE CARD IS WHAT COUNTS. Prove the row's statement (the work); the ties are given (YtoddjkpckpekcaaGreatDoorTie.lean); close each card by the builder's one call (the guide's Derived/Test/ToyasCard.lean, 'card_holds'). Laid BY PROGRAM, IN A SANDBOX (cutbox-door.mjs). By AI agents, Wed Nov 11 2026. No macro, syntax, notation, axiom, sorry.
-/
import Derived.Test.YtoddjkpckpekcaaGreatDoorRows
import GoSem.ClaimSeven
namespace Go.Proofs.YtoddjkpckpekcaaGreatDoor
namespace Rows

/-- THE TIED CARD OF 'laws.FnRatPlaces'. -/
def fnRatPlacesCard : Claim7 := { stood := { row := fnRatPlacesRow, standIns := [], harness := (true, "037100e94a6781b10b48b275a5adbec08d2610069e46d0a825597e66c706fd45"), looks := false }, kinds := [], alts := [], laidByText := true, laidKinds := [.data, .data, .data, .data, .data, .data], laidTests := true, laidLooks := .later }
def FnRatPlacesCardSaid : Prop := Claim7.holds Tryz.pinned (.plain (OpenSpec.ofChange fnRatPlacesSpec)) fnRatPlacesCard

/-- THE TIED CARD OF 'laws.FnRatFloat32'. -/
def fnRatFloat32Card : Claim7 := { stood := { row := fnRatFloat32Row, standIns := [], harness := (true, "037100e94a6781b10b48b275a5adbec08d2610069e46d0a825597e66c706fd45"), looks := false }, kinds := [], alts := [], laidByText := true, laidKinds := [.data, .data, .data, .data], laidTests := true, laidLooks := .later }
def FnRatFloat32CardSaid : Prop := Claim7.holds Tryz.pinned (.plain (OpenSpec.ofChange fnRatFloat32Spec)) fnRatFloat32Card

/-- THE TIED CARD OF 'laws.FnRatFloat64'. -/
def fnRatFloat64Card : Claim7 := { stood := { row := fnRatFloat64Row, standIns := [], harness := (true, "037100e94a6781b10b48b275a5adbec08d2610069e46d0a825597e66c706fd45"), looks := false }, kinds := [], alts := [], laidByText := true, laidKinds := [.data, .data, .data, .data], laidTests := true, laidLooks := .later }
def FnRatFloat64CardSaid : Prop := Claim7.holds Tryz.pinned (.plain (OpenSpec.ofChange fnRatFloat64Spec)) fnRatFloat64Card

/-- THE TIED CARD OF 'laws.FnRatInto'. -/
def fnRatIntoCard : Claim7 := { stood := { row := fnRatIntoRow, standIns := [], harness := (true, "037100e94a6781b10b48b275a5adbec08d2610069e46d0a825597e66c706fd45"), looks := false }, kinds := [], alts := [], laidByText := true, laidKinds := [.data, .data, .data, .data], laidTests := true, laidLooks := .later }
def FnRatIntoCardSaid : Prop := Claim7.holds Tryz.pinned (.plain (OpenSpec.ofChange fnRatIntoSpec)) fnRatIntoCard

/-- THE TIED CARD OF 'laws.FnRatFloatBack'. -/
def fnRatFloatBackCard : Claim7 := { stood := { row := fnRatFloatBackRow, standIns := [], harness := (true, "037100e94a6781b10b48b275a5adbec08d2610069e46d0a825597e66c706fd45"), looks := false }, kinds := [], alts := [], laidByText := true, laidKinds := [.data, .data, .data, .data], laidTests := true, laidLooks := .later }
def FnRatFloatBackCardSaid : Prop := Claim7.holds Tryz.pinned (.plain (OpenSpec.ofChange fnRatFloatBackSpec)) fnRatFloatBackCard

/-- THE SECOND FORM's CARD OF 'laws.FnRatPlaces'. -/
def fnRatPlacesUptoCard : Claim7 := { stood := { row := fnRatPlacesUptoRow, standIns := [], harness := (true, "037100e94a6781b10b48b275a5adbec08d2610069e46d0a825597e66c706fd45"), looks := false }, kinds := [], alts := [], laidByText := true, laidKinds := [.data, .data, .data, .data, .data, .data], laidTests := true, laidLooks := .later }
def FnRatPlacesUptoCardSaid : Prop := Claim7.holds Tryz.pinned (.plain (OpenSpec.upto fnRatPlacesSpec)) fnRatPlacesUptoCard

/-- THE SECOND FORM's CARD OF 'laws.FnRatFloat32'. -/
def fnRatFloat32UptoCard : Claim7 := { stood := { row := fnRatFloat32UptoRow, standIns := [], harness := (true, "037100e94a6781b10b48b275a5adbec08d2610069e46d0a825597e66c706fd45"), looks := false }, kinds := [], alts := [], laidByText := true, laidKinds := [.data, .data, .data, .data], laidTests := true, laidLooks := .later }
def FnRatFloat32UptoCardSaid : Prop := Claim7.holds Tryz.pinned (.plain (OpenSpec.upto fnRatFloat32Spec)) fnRatFloat32UptoCard

/-- THE SECOND FORM's CARD OF 'laws.FnRatFloat64'. -/
def fnRatFloat64UptoCard : Claim7 := { stood := { row := fnRatFloat64UptoRow, standIns := [], harness := (true, "037100e94a6781b10b48b275a5adbec08d2610069e46d0a825597e66c706fd45"), looks := false }, kinds := [], alts := [], laidByText := true, laidKinds := [.data, .data, .data, .data], laidTests := true, laidLooks := .later }
def FnRatFloat64UptoCardSaid : Prop := Claim7.holds Tryz.pinned (.plain (OpenSpec.upto fnRatFloat64Spec)) fnRatFloat64UptoCard

/-- THE SECOND FORM's CARD OF 'laws.FnRatInto'. -/
def fnRatIntoUptoCard : Claim7 := { stood := { row := fnRatIntoUptoRow, standIns := [], harness := (true, "037100e94a6781b10b48b275a5adbec08d2610069e46d0a825597e66c706fd45"), looks := false }, kinds := [], alts := [], laidByText := true, laidKinds := [.data, .data, .data, .data], laidTests := true, laidLooks := .later }
def FnRatIntoUptoCardSaid : Prop := Claim7.holds Tryz.pinned (.plain (OpenSpec.upto fnRatIntoSpec)) fnRatIntoUptoCard

/-- THE SECOND FORM's CARD OF 'laws.FnRatFloatBack'. -/
def fnRatFloatBackUptoCard : Claim7 := { stood := { row := fnRatFloatBackUptoRow, standIns := [], harness := (true, "037100e94a6781b10b48b275a5adbec08d2610069e46d0a825597e66c706fd45"), looks := false }, kinds := [], alts := [], laidByText := true, laidKinds := [.data, .data, .data, .data], laidTests := true, laidLooks := .later }
def FnRatFloatBackUptoCardSaid : Prop := Claim7.holds Tryz.pinned (.plain (OpenSpec.upto fnRatFloatBackSpec)) fnRatFloatBackUptoCard
end Rows
end Go.Proofs.YtoddjkpckpekcaaGreatDoor
