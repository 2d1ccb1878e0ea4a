/-
  DERIVED. GIVEN WITH THE SEED: THE CARDS: each row of YtbghmceglemppaaGreatDoorRows.lean that lists a variable, with what it lists TIED to the program's text (the seventh form; the later family's looks); each row that meets fmt, with fmt's text TOLD by the authors' own Lean function (tested against real Go, not proved from fmt's source: count such statements apart). THE CARD IS WHAT COUNTS. Prove the row's statement (the work); the ties are given (YtbghmceglemppaaGreatDoorTie.lean); close each card by the builder's one call (the guide's Derived/Test/ToyasCard.lean, 'card_holds'). Laid BY PROGRAM, IN A SANDBOX (cutbox-door.mjs). By AI agents, Wed Nov 11 2026. No macro, syntax, notation, axiom, sorry.
-/
import Derived.Test.YtbghmceglemppaaGreatDoorRows
import GoSem.ClaimSeven
namespace Go.Proofs.YtbghmceglemppaaGreatDoor
namespace Rows

/-- THE TIED CARD OF 'laws.FnSterbenz'. -/
def fnSterbenzCard : Claim7 := { stood := { row := fnSterbenzRow, standIns := [], harness := (true, "7e00851aca28f052e6f2a0d5b96fd4ea7c364710d5adcf796fe13cb7aea58fa7"), looks := false }, kinds := [], alts := [], laidByText := true, laidKinds := [.data, .data], laidTests := true, laidLooks := .later }
def FnSterbenzCardSaid : Prop := Claim7.holds Tryz.pinned (.plain (OpenSpec.ofChange fnSterbenzSpec)) fnSterbenzCard

/-- THE TIED CARD OF 'laws.FnRatSetFloat64'. -/
def fnRatSetFloat64Card : Claim7 := { stood := { row := fnRatSetFloat64Row, standIns := [], harness := (true, "7e00851aca28f052e6f2a0d5b96fd4ea7c364710d5adcf796fe13cb7aea58fa7"), looks := false }, kinds := [], alts := [], laidByText := true, laidKinds := [.data, .data, .data, .data], laidTests := true, laidLooks := .later }
def FnRatSetFloat64CardSaid : Prop := Claim7.holds Tryz.pinned (.plain (OpenSpec.ofChange fnRatSetFloat64Spec)) fnRatSetFloat64Card

/-- THE TIED CARD OF 'laws.FnRatFloat64'. -/
def fnRatFloat64Card : Claim7 := { stood := { row := fnRatFloat64Row, standIns := [], harness := (true, "7e00851aca28f052e6f2a0d5b96fd4ea7c364710d5adcf796fe13cb7aea58fa7"), looks := false }, kinds := [], alts := [], laidByText := true, laidKinds := [.data, .data, .data, .data], laidTests := true, laidLooks := .later }
def FnRatFloat64CardSaid : Prop := Claim7.holds Tryz.pinned (.plain (OpenSpec.ofChange fnRatFloat64Spec)) fnRatFloat64Card

/-- THE TIED CARD OF 'laws.FnRatFloat32'. -/
def fnRatFloat32Card : Claim7 := { stood := { row := fnRatFloat32Row, standIns := [], harness := (true, "7e00851aca28f052e6f2a0d5b96fd4ea7c364710d5adcf796fe13cb7aea58fa7"), looks := false }, kinds := [], alts := [], laidByText := true, laidKinds := [.data, .data, .data, .data], laidTests := true, laidLooks := .later }
def FnRatFloat32CardSaid : Prop := Claim7.holds Tryz.pinned (.plain (OpenSpec.ofChange fnRatFloat32Spec)) fnRatFloat32Card

/-- THE TIED CARD OF 'laws.FnRatField'. -/
def fnRatFieldCard : Claim7 := { stood := { row := fnRatFieldRow, standIns := [], harness := (true, "7e00851aca28f052e6f2a0d5b96fd4ea7c364710d5adcf796fe13cb7aea58fa7"), looks := false }, kinds := [], alts := [], laidByText := true, laidKinds := [.data, .data, .data, .data], laidTests := true, laidLooks := .later }
def FnRatFieldCardSaid : Prop := Claim7.holds Tryz.pinned (.plain (OpenSpec.ofChange fnRatFieldSpec)) fnRatFieldCard

/-- THE TIED CARD OF 'laws.FnRatInto'. -/
def fnRatIntoCard : Claim7 := { stood := { row := fnRatIntoRow, standIns := [], harness := (true, "7e00851aca28f052e6f2a0d5b96fd4ea7c364710d5adcf796fe13cb7aea58fa7"), looks := false }, kinds := [], alts := [], laidByText := true, laidKinds := [.data, .data, .data, .data], laidTests := true, laidLooks := .later }
def FnRatIntoCardSaid : Prop := Claim7.holds Tryz.pinned (.plain (OpenSpec.ofChange fnRatIntoSpec)) fnRatIntoCard

/-- THE TIED CARD OF 'laws.FnRatFloatBack'. -/
def fnRatFloatBackCard : Claim7 := { stood := { row := fnRatFloatBackRow, standIns := [], harness := (true, "7e00851aca28f052e6f2a0d5b96fd4ea7c364710d5adcf796fe13cb7aea58fa7"), looks := false }, kinds := [], alts := [], laidByText := true, laidKinds := [.data, .data, .data, .data], laidTests := true, laidLooks := .later }
def FnRatFloatBackCardSaid : Prop := Claim7.holds Tryz.pinned (.plain (OpenSpec.ofChange fnRatFloatBackSpec)) fnRatFloatBackCard

/-- THE TIED CARD OF 'laws.FnQuo'. -/
def fnQuoCard : Claim7 := { stood := { row := fnQuoRow, standIns := [], harness := (true, "7e00851aca28f052e6f2a0d5b96fd4ea7c364710d5adcf796fe13cb7aea58fa7"), looks := false }, kinds := [], alts := [], laidByText := true, laidKinds := [.data, .data, .data, .data, .data, .data], laidTests := true, laidLooks := .later }
def FnQuoCardSaid : Prop := Claim7.holds Tryz.pinned (.plain (OpenSpec.ofChange fnQuoSpec)) fnQuoCard

/-- THE TIED CARD OF 'laws.FnKept'. -/
def fnKeptCard : Claim7 := { stood := { row := fnKeptRow, standIns := [], harness := (true, "7e00851aca28f052e6f2a0d5b96fd4ea7c364710d5adcf796fe13cb7aea58fa7"), looks := false }, kinds := [], alts := [], laidByText := true, laidKinds := [.data, .data], laidTests := true, laidLooks := .later }
def FnKeptCardSaid : Prop := Claim7.holds Tryz.pinned (.plain (OpenSpec.ofChange fnKeptSpec)) fnKeptCard

/-- THE TIED CARD OF 'laws.FnRat'. -/
def fnRatCard : Claim7 := { stood := { row := fnRatRow, standIns := [], harness := (true, "7e00851aca28f052e6f2a0d5b96fd4ea7c364710d5adcf796fe13cb7aea58fa7"), looks := false }, kinds := [], alts := [], laidByText := true, laidKinds := [.data, .data, .data, .data], laidTests := true, laidLooks := .later }
def FnRatCardSaid : Prop := Claim7.holds Tryz.pinned (.plain (OpenSpec.ofChange fnRatSpec)) fnRatCard

/-- THE TIED CARD OF 'laws.FnSetRat'. -/
def fnSetRatCard : Claim7 := { stood := { row := fnSetRatRow, standIns := [], harness := (true, "7e00851aca28f052e6f2a0d5b96fd4ea7c364710d5adcf796fe13cb7aea58fa7"), looks := false }, kinds := [], alts := [], laidByText := true, laidKinds := [.data, .data, .data, .data, .data, .data], laidTests := true, laidLooks := .later }
def FnSetRatCardSaid : Prop := Claim7.holds Tryz.pinned (.plain (OpenSpec.ofChange fnSetRatSpec)) fnSetRatCard

/-- THE TIED CARD OF 'laws.FnScale'. -/
def fnScaleCard : Claim7 := { stood := { row := fnScaleRow, standIns := [], harness := (true, "7e00851aca28f052e6f2a0d5b96fd4ea7c364710d5adcf796fe13cb7aea58fa7"), looks := false }, kinds := [], alts := [], laidByText := true, laidKinds := [.data, .data, .data, .data, .data, .data], laidTests := true, laidLooks := .later }
def FnScaleCardSaid : Prop := Claim7.holds Tryz.pinned (.plain (OpenSpec.ofChange fnScaleSpec)) fnScaleCard

/-- THE SECOND FORM's CARD OF 'laws.FnSterbenz'. -/
def fnSterbenzUptoCard : Claim7 := { stood := { row := fnSterbenzUptoRow, standIns := [], harness := (true, "7e00851aca28f052e6f2a0d5b96fd4ea7c364710d5adcf796fe13cb7aea58fa7"), looks := false }, kinds := [], alts := [], laidByText := true, laidKinds := [.data, .data], laidTests := true, laidLooks := .later }
def FnSterbenzUptoCardSaid : Prop := Claim7.holds Tryz.pinned (.plain (OpenSpec.upto fnSterbenzSpec)) fnSterbenzUptoCard

/-- THE SECOND FORM's CARD OF 'laws.FnRatSetFloat64'. -/
def fnRatSetFloat64UptoCard : Claim7 := { stood := { row := fnRatSetFloat64UptoRow, standIns := [], harness := (true, "7e00851aca28f052e6f2a0d5b96fd4ea7c364710d5adcf796fe13cb7aea58fa7"), looks := false }, kinds := [], alts := [], laidByText := true, laidKinds := [.data, .data, .data, .data], laidTests := true, laidLooks := .later }
def FnRatSetFloat64UptoCardSaid : Prop := Claim7.holds Tryz.pinned (.plain (OpenSpec.upto fnRatSetFloat64Spec)) fnRatSetFloat64UptoCard

/-- THE SECOND FORM's CARD OF 'laws.FnRatFloat64'. -/
def fnRatFloat64UptoCard : Claim7 := { stood := { row := fnRatFloat64UptoRow, standIns := [], harness := (true, "7e00851aca28f052e6f2a0d5b96fd4ea7c364710d5adcf796fe13cb7aea58fa7"), looks := false }, kinds := [], alts := [], laidByText := true, laidKinds := [.data, .data, .data, .data], laidTests := true, laidLooks := .later }
def FnRatFloat64UptoCardSaid : Prop := Claim7.holds Tryz.pinned (.plain (OpenSpec.upto fnRatFloat64Spec)) fnRatFloat64UptoCard

/-- THE SECOND FORM's CARD OF 'laws.FnRatFloat32'. -/
def fnRatFloat32UptoCard : Claim7 := { stood := { row := fnRatFloat32UptoRow, standIns := [], harness := (true, "7e00851aca28f052e6f2a0d5b96fd4ea7c364710d5adcf796fe13cb7aea58fa7"), looks := false }, kinds := [], alts := [], laidByText := true, laidKinds := [.data, .data, .data, .data], laidTests := true, laidLooks := .later }
def FnRatFloat32UptoCardSaid : Prop := Claim7.holds Tryz.pinned (.plain (OpenSpec.upto fnRatFloat32Spec)) fnRatFloat32UptoCard

/-- THE SECOND FORM's CARD OF 'laws.FnRatField'. -/
def fnRatFieldUptoCard : Claim7 := { stood := { row := fnRatFieldUptoRow, standIns := [], harness := (true, "7e00851aca28f052e6f2a0d5b96fd4ea7c364710d5adcf796fe13cb7aea58fa7"), looks := false }, kinds := [], alts := [], laidByText := true, laidKinds := [.data, .data, .data, .data], laidTests := true, laidLooks := .later }
def FnRatFieldUptoCardSaid : Prop := Claim7.holds Tryz.pinned (.plain (OpenSpec.upto fnRatFieldSpec)) fnRatFieldUptoCard

/-- THE SECOND FORM's CARD OF 'laws.FnRatInto'. -/
def fnRatIntoUptoCard : Claim7 := { stood := { row := fnRatIntoUptoRow, standIns := [], harness := (true, "7e00851aca28f052e6f2a0d5b96fd4ea7c364710d5adcf796fe13cb7aea58fa7"), looks := false }, kinds := [], alts := [], laidByText := true, laidKinds := [.data, .data, .data, .data], laidTests := true, laidLooks := .later }
def FnRatIntoUptoCardSaid : Prop := Claim7.holds Tryz.pinned (.plain (OpenSpec.upto fnRatIntoSpec)) fnRatIntoUptoCard

/-- THE SECOND FORM's CARD OF 'laws.FnRatFloatBack'. -/
def fnRatFloatBackUptoCard : Claim7 := { stood := { row := fnRatFloatBackUptoRow, standIns := [], harness := (true, "7e00851aca28f052e6f2a0d5b96fd4ea7c364710d5adcf796fe13cb7aea58fa7"), looks := false }, kinds := [], alts := [], laidByText := true, laidKinds := [.data, .data, .data, .data], laidTests := true, laidLooks := .later }
def FnRatFloatBackUptoCardSaid : Prop := Claim7.holds Tryz.pinned (.plain (OpenSpec.upto fnRatFloatBackSpec)) fnRatFloatBackUptoCard

/-- THE SECOND FORM's CARD OF 'laws.FnQuo'. -/
def fnQuoUptoCard : Claim7 := { stood := { row := fnQuoUptoRow, standIns := [], harness := (true, "7e00851aca28f052e6f2a0d5b96fd4ea7c364710d5adcf796fe13cb7aea58fa7"), looks := false }, kinds := [], alts := [], laidByText := true, laidKinds := [.data, .data, .data, .data, .data, .data], laidTests := true, laidLooks := .later }
def FnQuoUptoCardSaid : Prop := Claim7.holds Tryz.pinned (.plain (OpenSpec.upto fnQuoSpec)) fnQuoUptoCard

/-- THE SECOND FORM's CARD OF 'laws.FnKept'. -/
def fnKeptUptoCard : Claim7 := { stood := { row := fnKeptUptoRow, standIns := [], harness := (true, "7e00851aca28f052e6f2a0d5b96fd4ea7c364710d5adcf796fe13cb7aea58fa7"), looks := false }, kinds := [], alts := [], laidByText := true, laidKinds := [.data, .data], laidTests := true, laidLooks := .later }
def FnKeptUptoCardSaid : Prop := Claim7.holds Tryz.pinned (.plain (OpenSpec.upto fnKeptSpec)) fnKeptUptoCard

/-- THE SECOND FORM's CARD OF 'laws.FnRat'. -/
def fnRatUptoCard : Claim7 := { stood := { row := fnRatUptoRow, standIns := [], harness := (true, "7e00851aca28f052e6f2a0d5b96fd4ea7c364710d5adcf796fe13cb7aea58fa7"), looks := false }, kinds := [], alts := [], laidByText := true, laidKinds := [.data, .data, .data, .data], laidTests := true, laidLooks := .later }
def FnRatUptoCardSaid : Prop := Claim7.holds Tryz.pinned (.plain (OpenSpec.upto fnRatSpec)) fnRatUptoCard

/-- THE SECOND FORM's CARD OF 'laws.FnSetRat'. -/
def fnSetRatUptoCard : Claim7 := { stood := { row := fnSetRatUptoRow, standIns := [], harness := (true, "7e00851aca28f052e6f2a0d5b96fd4ea7c364710d5adcf796fe13cb7aea58fa7"), looks := false }, kinds := [], alts := [], laidByText := true, laidKinds := [.data, .data, .data, .data, .data, .data], laidTests := true, laidLooks := .later }
def FnSetRatUptoCardSaid : Prop := Claim7.holds Tryz.pinned (.plain (OpenSpec.upto fnSetRatSpec)) fnSetRatUptoCard

/-- THE SECOND FORM's CARD OF 'laws.FnScale'. -/
def fnScaleUptoCard : Claim7 := { stood := { row := fnScaleUptoRow, standIns := [], harness := (true, "7e00851aca28f052e6f2a0d5b96fd4ea7c364710d5adcf796fe13cb7aea58fa7"), looks := false }, kinds := [], alts := [], laidByText := true, laidKinds := [.data, .data, .data, .data, .data, .data], laidTests := true, laidLooks := .later }
def FnScaleUptoCardSaid : Prop := Claim7.holds Tryz.pinned (.plain (OpenSpec.upto fnScaleSpec)) fnScaleUptoCard
end Rows
end Go.Proofs.YtbghmceglemppaaGreatDoor
