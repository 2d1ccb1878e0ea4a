/-
  DERIVED. GIVEN WITH THE SEED: THE CARDS: each row of YtdepidpgbgfjlaaGreatDoorRows.lean that lists a variable, with what it lists TIED to the program's text (the seventh form; the later family's looks); each row that meets fmt, with fmt's text TOLD by the authors' own Lean function (tested against real Go, not proved from fmt's source: count such statements apart). THE CARD IS WHAT COUNTS. Prove the row's statement (the work); the ties are given (YtdepidpgbgfjlaaGreatDoorTie.lean); close each card by the builder's one call (the guide's Derived/Test/ToyasCard.lean, 'card_holds'). Laid BY PROGRAM, IN A SANDBOX (cutbox-door.mjs). By AI agents, Wed Nov 11 2026. No macro, syntax, notation, axiom, sorry.
-/
import Derived.Test.YtdepidpgbgfjlaaGreatDoorRows
import GoSem.ClaimSeven
namespace Go.Proofs.YtdepidpgbgfjlaaGreatDoor
namespace Rows

/-- THE TIED CARD OF 'laws.FnSetRat'. -/
def fnSetRatCard : Claim7 := { stood := { row := fnSetRatRow, standIns := [], harness := (true, "f575100be662362a776d333a90230aa0cb09e9e913758f0bb44f1ea94ef6ffd8"), looks := false }, kinds := [], alts := [], laidByText := true, laidKinds := [.data, .data, .data, .data, .data, .data], laidTests := true, laidLooks := .later }
def FnSetRatCardSaid : Prop := Claim7.holds Tryz.pinned (.plain (OpenSpec.ofChange fnSetRatSpec)) fnSetRatCard

/-- THE TIED CARD OF 'laws.FnScale'. -/
def fnScaleCard : Claim7 := { stood := { row := fnScaleRow, standIns := [], harness := (true, "f575100be662362a776d333a90230aa0cb09e9e913758f0bb44f1ea94ef6ffd8"), looks := false }, kinds := [], alts := [], laidByText := true, laidKinds := [.data, .data, .data, .data, .data, .data], laidTests := true, laidLooks := .later }
def FnScaleCardSaid : Prop := Claim7.holds Tryz.pinned (.plain (OpenSpec.ofChange fnScaleSpec)) fnScaleCard

/-- THE TIED CARD OF 'laws.FnRatFloat64'. -/
def fnRatFloat64Card : Claim7 := { stood := { row := fnRatFloat64Row, standIns := [], harness := (true, "f575100be662362a776d333a90230aa0cb09e9e913758f0bb44f1ea94ef6ffd8"), looks := false }, kinds := [], alts := [], laidByText := true, laidKinds := [.data, .data, .data, .data], laidTests := true, laidLooks := .later }
def FnRatFloat64CardSaid : Prop := Claim7.holds Tryz.pinned (.plain (OpenSpec.ofChange fnRatFloat64Spec)) fnRatFloat64Card

/-- THE TIED CARD OF 'laws.FnRatFloat32'. -/
def fnRatFloat32Card : Claim7 := { stood := { row := fnRatFloat32Row, standIns := [], harness := (true, "f575100be662362a776d333a90230aa0cb09e9e913758f0bb44f1ea94ef6ffd8"), looks := false }, kinds := [], alts := [], laidByText := true, laidKinds := [.data, .data, .data, .data], laidTests := true, laidLooks := .later }
def FnRatFloat32CardSaid : Prop := Claim7.holds Tryz.pinned (.plain (OpenSpec.ofChange fnRatFloat32Spec)) fnRatFloat32Card

/-- THE TIED CARD OF 'laws.FnRatFloatBack'. -/
def fnRatFloatBackCard : Claim7 := { stood := { row := fnRatFloatBackRow, standIns := [], harness := (true, "f575100be662362a776d333a90230aa0cb09e9e913758f0bb44f1ea94ef6ffd8"), looks := false }, kinds := [], alts := [], laidByText := true, laidKinds := [.data, .data, .data, .data], laidTests := true, laidLooks := .later }
def FnRatFloatBackCardSaid : Prop := Claim7.holds Tryz.pinned (.plain (OpenSpec.ofChange fnRatFloatBackSpec)) fnRatFloatBackCard

/-- THE TIED CARD OF 'laws.FnRat'. -/
def fnRatCard : Claim7 := { stood := { row := fnRatRow, standIns := [], harness := (true, "f575100be662362a776d333a90230aa0cb09e9e913758f0bb44f1ea94ef6ffd8"), looks := false }, kinds := [], alts := [], laidByText := true, laidKinds := [.data, .data, .data, .data], laidTests := true, laidLooks := .later }
def FnRatCardSaid : Prop := Claim7.holds Tryz.pinned (.plain (OpenSpec.ofChange fnRatSpec)) fnRatCard

/-- THE TIED CARD OF 'laws.FnRatInto'. -/
def fnRatIntoCard : Claim7 := { stood := { row := fnRatIntoRow, standIns := [], harness := (true, "f575100be662362a776d333a90230aa0cb09e9e913758f0bb44f1ea94ef6ffd8"), looks := false }, kinds := [], alts := [], laidByText := true, laidKinds := [.data, .data, .data, .data], laidTests := true, laidLooks := .later }
def FnRatIntoCardSaid : Prop := Claim7.holds Tryz.pinned (.plain (OpenSpec.ofChange fnRatIntoSpec)) fnRatIntoCard

/-- THE TIED CARD OF 'laws.FnRatPlaces'. -/
def fnRatPlacesCard : Claim7 := { stood := { row := fnRatPlacesRow, standIns := [], harness := (true, "f575100be662362a776d333a90230aa0cb09e9e913758f0bb44f1ea94ef6ffd8"), looks := false }, kinds := [], alts := [], laidByText := true, laidKinds := [.data, .data, .data, .data, .data, .data], laidTests := true, laidLooks := .later }
def FnRatPlacesCardSaid : Prop := Claim7.holds Tryz.pinned (.plain (OpenSpec.ofChange fnRatPlacesSpec)) fnRatPlacesCard

/-- THE TIED CARD OF 'laws.FnInto'. -/
def fnIntoCard : Claim7 := { stood := { row := fnIntoRow, standIns := [], harness := (true, "f575100be662362a776d333a90230aa0cb09e9e913758f0bb44f1ea94ef6ffd8"), looks := false }, kinds := [], alts := [], laidByText := true, laidKinds := [.data, .data, .data, .data, .data, .data], laidTests := true, laidLooks := .later }
def FnIntoCardSaid : Prop := Claim7.holds Tryz.pinned (.plain (OpenSpec.ofChange fnIntoSpec)) fnIntoCard

/-- THE TIED CARD OF 'laws.FnSqrt'. -/
def fnSqrtCard : Claim7 := { stood := { row := fnSqrtRow, standIns := [], harness := (true, "f575100be662362a776d333a90230aa0cb09e9e913758f0bb44f1ea94ef6ffd8"), looks := false }, kinds := [], alts := [], laidByText := true, laidKinds := [.data, .data, .data, .data, .data], laidTests := true, laidLooks := .later }
def FnSqrtCardSaid : Prop := Claim7.holds Tryz.pinned (.plain (OpenSpec.ofChange fnSqrtSpec)) fnSqrtCard

/-- THE TIED CARD OF 'laws.FnRootOfSquare'. -/
def fnRootOfSquareCard : Claim7 := { stood := { row := fnRootOfSquareRow, standIns := [], harness := (true, "f575100be662362a776d333a90230aa0cb09e9e913758f0bb44f1ea94ef6ffd8"), looks := false }, kinds := [], alts := [], laidByText := true, laidKinds := [.data, .data, .data, .data, .data], laidTests := true, laidLooks := .later }
def FnRootOfSquareCardSaid : Prop := Claim7.holds Tryz.pinned (.plain (OpenSpec.ofChange fnRootOfSquareSpec)) fnRootOfSquareCard

/-- THE TIED CARD OF 'laws.FnAsFloat64'. -/
def fnAsFloat64Card : Claim7 := { stood := { row := fnAsFloat64Row, standIns := [], harness := (true, "f575100be662362a776d333a90230aa0cb09e9e913758f0bb44f1ea94ef6ffd8"), looks := false }, kinds := [], alts := [], laidByText := true, laidKinds := [.data, .data, .data, .data, .data, .data], laidTests := true, laidLooks := .later }
def FnAsFloat64CardSaid : Prop := Claim7.holds Tryz.pinned (.plain (OpenSpec.ofChange fnAsFloat64Spec)) fnAsFloat64Card

/-- THE SECOND FORM's CARD OF 'laws.FnSetRat'. -/
def fnSetRatUptoCard : Claim7 := { stood := { row := fnSetRatUptoRow, standIns := [], harness := (true, "f575100be662362a776d333a90230aa0cb09e9e913758f0bb44f1ea94ef6ffd8"), looks := false }, kinds := [], alts := [], laidByText := true, laidKinds := [.data, .data, .data, .data, .data, .data], laidTests := true, laidLooks := .later }
def FnSetRatUptoCardSaid : Prop := Claim7.holds Tryz.pinned (.plain (OpenSpec.upto fnSetRatSpec)) fnSetRatUptoCard

/-- THE SECOND FORM's CARD OF 'laws.FnScale'. -/
def fnScaleUptoCard : Claim7 := { stood := { row := fnScaleUptoRow, standIns := [], harness := (true, "f575100be662362a776d333a90230aa0cb09e9e913758f0bb44f1ea94ef6ffd8"), looks := false }, kinds := [], alts := [], laidByText := true, laidKinds := [.data, .data, .data, .data, .data, .data], laidTests := true, laidLooks := .later }
def FnScaleUptoCardSaid : Prop := Claim7.holds Tryz.pinned (.plain (OpenSpec.upto fnScaleSpec)) fnScaleUptoCard

/-- THE SECOND FORM's CARD OF 'laws.FnRatFloat64'. -/
def fnRatFloat64UptoCard : Claim7 := { stood := { row := fnRatFloat64UptoRow, standIns := [], harness := (true, "f575100be662362a776d333a90230aa0cb09e9e913758f0bb44f1ea94ef6ffd8"), looks := false }, kinds := [], alts := [], laidByText := true, laidKinds := [.data, .data, .data, .data], laidTests := true, laidLooks := .later }
def FnRatFloat64UptoCardSaid : Prop := Claim7.holds Tryz.pinned (.plain (OpenSpec.upto fnRatFloat64Spec)) fnRatFloat64UptoCard

/-- THE SECOND FORM's CARD OF 'laws.FnRatFloat32'. -/
def fnRatFloat32UptoCard : Claim7 := { stood := { row := fnRatFloat32UptoRow, standIns := [], harness := (true, "f575100be662362a776d333a90230aa0cb09e9e913758f0bb44f1ea94ef6ffd8"), looks := false }, kinds := [], alts := [], laidByText := true, laidKinds := [.data, .data, .data, .data], laidTests := true, laidLooks := .later }
def FnRatFloat32UptoCardSaid : Prop := Claim7.holds Tryz.pinned (.plain (OpenSpec.upto fnRatFloat32Spec)) fnRatFloat32UptoCard

/-- THE SECOND FORM's CARD OF 'laws.FnRatFloatBack'. -/
def fnRatFloatBackUptoCard : Claim7 := { stood := { row := fnRatFloatBackUptoRow, standIns := [], harness := (true, "f575100be662362a776d333a90230aa0cb09e9e913758f0bb44f1ea94ef6ffd8"), looks := false }, kinds := [], alts := [], laidByText := true, laidKinds := [.data, .data, .data, .data], laidTests := true, laidLooks := .later }
def FnRatFloatBackUptoCardSaid : Prop := Claim7.holds Tryz.pinned (.plain (OpenSpec.upto fnRatFloatBackSpec)) fnRatFloatBackUptoCard

/-- THE SECOND FORM's CARD OF 'laws.FnRat'. -/
def fnRatUptoCard : Claim7 := { stood := { row := fnRatUptoRow, standIns := [], harness := (true, "f575100be662362a776d333a90230aa0cb09e9e913758f0bb44f1ea94ef6ffd8"), looks := false }, kinds := [], alts := [], laidByText := true, laidKinds := [.data, .data, .data, .data], laidTests := true, laidLooks := .later }
def FnRatUptoCardSaid : Prop := Claim7.holds Tryz.pinned (.plain (OpenSpec.upto fnRatSpec)) fnRatUptoCard

/-- THE SECOND FORM's CARD OF 'laws.FnRatInto'. -/
def fnRatIntoUptoCard : Claim7 := { stood := { row := fnRatIntoUptoRow, standIns := [], harness := (true, "f575100be662362a776d333a90230aa0cb09e9e913758f0bb44f1ea94ef6ffd8"), looks := false }, kinds := [], alts := [], laidByText := true, laidKinds := [.data, .data, .data, .data], laidTests := true, laidLooks := .later }
def FnRatIntoUptoCardSaid : Prop := Claim7.holds Tryz.pinned (.plain (OpenSpec.upto fnRatIntoSpec)) fnRatIntoUptoCard

/-- THE SECOND FORM's CARD OF 'laws.FnRatPlaces'. -/
def fnRatPlacesUptoCard : Claim7 := { stood := { row := fnRatPlacesUptoRow, standIns := [], harness := (true, "f575100be662362a776d333a90230aa0cb09e9e913758f0bb44f1ea94ef6ffd8"), looks := false }, kinds := [], alts := [], laidByText := true, laidKinds := [.data, .data, .data, .data, .data, .data], laidTests := true, laidLooks := .later }
def FnRatPlacesUptoCardSaid : Prop := Claim7.holds Tryz.pinned (.plain (OpenSpec.upto fnRatPlacesSpec)) fnRatPlacesUptoCard

/-- THE SECOND FORM's CARD OF 'laws.FnInto'. -/
def fnIntoUptoCard : Claim7 := { stood := { row := fnIntoUptoRow, standIns := [], harness := (true, "f575100be662362a776d333a90230aa0cb09e9e913758f0bb44f1ea94ef6ffd8"), looks := false }, kinds := [], alts := [], laidByText := true, laidKinds := [.data, .data, .data, .data, .data, .data], laidTests := true, laidLooks := .later }
def FnIntoUptoCardSaid : Prop := Claim7.holds Tryz.pinned (.plain (OpenSpec.upto fnIntoSpec)) fnIntoUptoCard

/-- THE SECOND FORM's CARD OF 'laws.FnSqrt'. -/
def fnSqrtUptoCard : Claim7 := { stood := { row := fnSqrtUptoRow, standIns := [], harness := (true, "f575100be662362a776d333a90230aa0cb09e9e913758f0bb44f1ea94ef6ffd8"), looks := false }, kinds := [], alts := [], laidByText := true, laidKinds := [.data, .data, .data, .data, .data], laidTests := true, laidLooks := .later }
def FnSqrtUptoCardSaid : Prop := Claim7.holds Tryz.pinned (.plain (OpenSpec.upto fnSqrtSpec)) fnSqrtUptoCard

/-- THE SECOND FORM's CARD OF 'laws.FnRootOfSquare'. -/
def fnRootOfSquareUptoCard : Claim7 := { stood := { row := fnRootOfSquareUptoRow, standIns := [], harness := (true, "f575100be662362a776d333a90230aa0cb09e9e913758f0bb44f1ea94ef6ffd8"), looks := false }, kinds := [], alts := [], laidByText := true, laidKinds := [.data, .data, .data, .data, .data], laidTests := true, laidLooks := .later }
def FnRootOfSquareUptoCardSaid : Prop := Claim7.holds Tryz.pinned (.plain (OpenSpec.upto fnRootOfSquareSpec)) fnRootOfSquareUptoCard

/-- THE SECOND FORM's CARD OF 'laws.FnAsFloat64'. -/
def fnAsFloat64UptoCard : Claim7 := { stood := { row := fnAsFloat64UptoRow, standIns := [], harness := (true, "f575100be662362a776d333a90230aa0cb09e9e913758f0bb44f1ea94ef6ffd8"), looks := false }, kinds := [], alts := [], laidByText := true, laidKinds := [.data, .data, .data, .data, .data, .data], laidTests := true, laidLooks := .later }
def FnAsFloat64UptoCardSaid : Prop := Claim7.holds Tryz.pinned (.plain (OpenSpec.upto fnAsFloat64Spec)) fnAsFloat64UptoCard
end Rows
end Go.Proofs.YtdepidpgbgfjlaaGreatDoor
