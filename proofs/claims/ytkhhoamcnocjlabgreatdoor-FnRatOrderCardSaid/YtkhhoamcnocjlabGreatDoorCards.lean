/-
  DERIVED. GIVEN WITH THE SEED: THE CARDS: each row of YtkhhoamcnocjlabGreatDoorRows.lean that lists a variable, with what it lists TIED to the program's text (the seventh form; the later family's looks); each row that meets fmt, with fmt's text TOLD by the authors' own Lean function (tested against real Go, not proved from fmt's source: count such statements apart). THE CARD IS WHAT COUNTS. Prove the row's statement (the work); the ties are given (YtkhhoamcnocjlabGreatDoorTie.lean); close each card by the builder's one call (the guide's Derived/Test/ToyasCard.lean, 'card_holds'). Laid BY PROGRAM, IN A SANDBOX (cutbox-door.mjs). By AI agents, Wed Nov 11 2026. No macro, syntax, notation, axiom, sorry.
-/
import Derived.Test.YtkhhoamcnocjlabGreatDoorRows
import GoSem.ClaimSeven
namespace Go.Proofs.YtkhhoamcnocjlabGreatDoor
namespace Rows

/-- THE TIED CARD OF 'laws.FnRatSub'. -/
def fnRatSubCard : Claim7 := { stood := { row := fnRatSubRow, standIns := [], harness := (true, "3ad9398fea655c052864c7f7eb30989e2131fb94b65ea5989de9a29502aa45ec"), looks := false }, kinds := [], alts := [], laidByText := true, laidKinds := [.data, .data, .data, .data], laidTests := true, laidLooks := .later }
def FnRatSubCardSaid : Prop := Claim7.holds Tryz.pinned (.plain (OpenSpec.ofChange fnRatSubSpec)) fnRatSubCard

/-- THE TIED CARD OF 'laws.FnRatMul'. -/
def fnRatMulCard : Claim7 := { stood := { row := fnRatMulRow, standIns := [], harness := (true, "3ad9398fea655c052864c7f7eb30989e2131fb94b65ea5989de9a29502aa45ec"), looks := false }, kinds := [], alts := [], laidByText := true, laidKinds := [.data, .data, .data, .data], laidTests := true, laidLooks := .later }
def FnRatMulCardSaid : Prop := Claim7.holds Tryz.pinned (.plain (OpenSpec.ofChange fnRatMulSpec)) fnRatMulCard

/-- THE TIED CARD OF 'laws.FnRatQuo'. -/
def fnRatQuoCard : Claim7 := { stood := { row := fnRatQuoRow, standIns := [], harness := (true, "3ad9398fea655c052864c7f7eb30989e2131fb94b65ea5989de9a29502aa45ec"), looks := false }, kinds := [], alts := [], laidByText := true, laidKinds := [.data, .data, .data, .data], laidTests := true, laidLooks := .later }
def FnRatQuoCardSaid : Prop := Claim7.holds Tryz.pinned (.plain (OpenSpec.ofChange fnRatQuoSpec)) fnRatQuoCard

/-- THE TIED CARD OF 'laws.FnRatSetFloat64'. -/
def fnRatSetFloat64Card : Claim7 := { stood := { row := fnRatSetFloat64Row, standIns := [], harness := (true, "3ad9398fea655c052864c7f7eb30989e2131fb94b65ea5989de9a29502aa45ec"), looks := false }, kinds := [], alts := [], laidByText := true, laidKinds := [.data, .data, .data, .data], laidTests := true, laidLooks := .later }
def FnRatSetFloat64CardSaid : Prop := Claim7.holds Tryz.pinned (.plain (OpenSpec.ofChange fnRatSetFloat64Spec)) fnRatSetFloat64Card

/-- THE TIED CARD OF 'laws.FnRatOrder'. -/
def fnRatOrderCard : Claim7 := { stood := { row := fnRatOrderRow, standIns := [], harness := (true, "3ad9398fea655c052864c7f7eb30989e2131fb94b65ea5989de9a29502aa45ec"), looks := false }, kinds := [], alts := [], laidByText := true, laidKinds := [.data, .data, .data, .data], laidTests := true, laidLooks := .later }
def FnRatOrderCardSaid : Prop := Claim7.holds Tryz.pinned (.plain (OpenSpec.ofChange fnRatOrderSpec)) fnRatOrderCard

/-- THE TIED CARD OF 'laws.FnQuo'. -/
def fnQuoCard : Claim7 := { stood := { row := fnQuoRow, standIns := [], harness := (true, "3ad9398fea655c052864c7f7eb30989e2131fb94b65ea5989de9a29502aa45ec"), looks := false }, kinds := [], alts := [], laidByText := true, laidKinds := [.data, .data, .data, .data, .data, .data], laidTests := true, laidLooks := .later }
def FnQuoCardSaid : Prop := Claim7.holds Tryz.pinned (.plain (OpenSpec.ofChange fnQuoSpec)) fnQuoCard

/-- THE SECOND FORM's CARD OF 'laws.FnRatSub'. -/
def fnRatSubUptoCard : Claim7 := { stood := { row := fnRatSubUptoRow, standIns := [], harness := (true, "3ad9398fea655c052864c7f7eb30989e2131fb94b65ea5989de9a29502aa45ec"), looks := false }, kinds := [], alts := [], laidByText := true, laidKinds := [.data, .data, .data, .data], laidTests := true, laidLooks := .later }
def FnRatSubUptoCardSaid : Prop := Claim7.holds Tryz.pinned (.plain (OpenSpec.upto fnRatSubSpec)) fnRatSubUptoCard

/-- THE SECOND FORM's CARD OF 'laws.FnRatMul'. -/
def fnRatMulUptoCard : Claim7 := { stood := { row := fnRatMulUptoRow, standIns := [], harness := (true, "3ad9398fea655c052864c7f7eb30989e2131fb94b65ea5989de9a29502aa45ec"), looks := false }, kinds := [], alts := [], laidByText := true, laidKinds := [.data, .data, .data, .data], laidTests := true, laidLooks := .later }
def FnRatMulUptoCardSaid : Prop := Claim7.holds Tryz.pinned (.plain (OpenSpec.upto fnRatMulSpec)) fnRatMulUptoCard

/-- THE SECOND FORM's CARD OF 'laws.FnRatQuo'. -/
def fnRatQuoUptoCard : Claim7 := { stood := { row := fnRatQuoUptoRow, standIns := [], harness := (true, "3ad9398fea655c052864c7f7eb30989e2131fb94b65ea5989de9a29502aa45ec"), looks := false }, kinds := [], alts := [], laidByText := true, laidKinds := [.data, .data, .data, .data], laidTests := true, laidLooks := .later }
def FnRatQuoUptoCardSaid : Prop := Claim7.holds Tryz.pinned (.plain (OpenSpec.upto fnRatQuoSpec)) fnRatQuoUptoCard

/-- THE SECOND FORM's CARD OF 'laws.FnRatSetFloat64'. -/
def fnRatSetFloat64UptoCard : Claim7 := { stood := { row := fnRatSetFloat64UptoRow, standIns := [], harness := (true, "3ad9398fea655c052864c7f7eb30989e2131fb94b65ea5989de9a29502aa45ec"), looks := false }, kinds := [], alts := [], laidByText := true, laidKinds := [.data, .data, .data, .data], laidTests := true, laidLooks := .later }
def FnRatSetFloat64UptoCardSaid : Prop := Claim7.holds Tryz.pinned (.plain (OpenSpec.upto fnRatSetFloat64Spec)) fnRatSetFloat64UptoCard

/-- THE SECOND FORM's CARD OF 'laws.FnRatOrder'. -/
def fnRatOrderUptoCard : Claim7 := { stood := { row := fnRatOrderUptoRow, standIns := [], harness := (true, "3ad9398fea655c052864c7f7eb30989e2131fb94b65ea5989de9a29502aa45ec"), looks := false }, kinds := [], alts := [], laidByText := true, laidKinds := [.data, .data, .data, .data], laidTests := true, laidLooks := .later }
def FnRatOrderUptoCardSaid : Prop := Claim7.holds Tryz.pinned (.plain (OpenSpec.upto fnRatOrderSpec)) fnRatOrderUptoCard

/-- THE SECOND FORM's CARD OF 'laws.FnQuo'. -/
def fnQuoUptoCard : Claim7 := { stood := { row := fnQuoUptoRow, standIns := [], harness := (true, "3ad9398fea655c052864c7f7eb30989e2131fb94b65ea5989de9a29502aa45ec"), looks := false }, kinds := [], alts := [], laidByText := true, laidKinds := [.data, .data, .data, .data, .data, .data], laidTests := true, laidLooks := .later }
def FnQuoUptoCardSaid : Prop := Claim7.holds Tryz.pinned (.plain (OpenSpec.upto fnQuoSpec)) fnQuoUptoCard
end Rows
end Go.Proofs.YtkhhoamcnocjlabGreatDoor
