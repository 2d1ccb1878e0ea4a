/-
  DERIVED. GIVEN WITH THE SEED: THE CARDS: each row of YtllhnjpnkmjopaaGreatDoorRows.lean that lists a variable, with what it lists TIED to the program's text (the seventh form; the later family's looks); each row that meets fmt, with fmt's text TOLD by the authors' own Lean function (tested against real Go, not proved from fmt's source: count such statements apart). THE CARD IS WHAT COUNTS. Prove the row's statement (the work); the ties are given (YtllhnjpnkmjopaaGreatDoorTie.lean); close each card by the builder's one call (the guide's Derived/Test/ToyasCard.lean, 'card_holds'). Laid BY PROGRAM, IN A SANDBOX (cutbox-door.mjs). By AI agents, Wed Nov 11 2026. No macro, syntax, notation, axiom, sorry.
-/
import Derived.Test.YtllhnjpnkmjopaaGreatDoorRows
import GoSem.ClaimSeven
namespace Go.Proofs.YtllhnjpnkmjopaaGreatDoor
namespace Rows

/-- THE TIED CARD OF 'laws.FnRatInto'. -/
def fnRatIntoCard : Claim7 := { stood := { row := fnRatIntoRow, standIns := [], harness := (true, "dc9ec77f8b0ae6617eae76e674e48a01b048cc0c5fdc63860a71f12ac5f4bff3"), looks := false }, kinds := [], alts := [], laidByText := true, laidKinds := [.data, .data, .data, .data], laidTests := true, laidLooks := .later }
def FnRatIntoCardSaid : Prop := Claim7.holds Tryz.pinned (.plain (OpenSpec.ofChange fnRatIntoSpec)) fnRatIntoCard

/-- THE TIED CARD OF 'laws.FnSqrt'. -/
def fnSqrtCard : Claim7 := { stood := { row := fnSqrtRow, standIns := [], harness := (true, "dc9ec77f8b0ae6617eae76e674e48a01b048cc0c5fdc63860a71f12ac5f4bff3"), looks := false }, kinds := [], alts := [], laidByText := true, laidKinds := [.data, .data, .data, .data, .data], laidTests := true, laidLooks := .later }
def FnSqrtCardSaid : Prop := Claim7.holds Tryz.pinned (.plain (OpenSpec.ofChange fnSqrtSpec)) fnSqrtCard

/-- THE TIED CARD OF 'laws.FnRootOfSquare'. -/
def fnRootOfSquareCard : Claim7 := { stood := { row := fnRootOfSquareRow, standIns := [], harness := (true, "dc9ec77f8b0ae6617eae76e674e48a01b048cc0c5fdc63860a71f12ac5f4bff3"), looks := false }, kinds := [], alts := [], laidByText := true, laidKinds := [.data, .data, .data, .data, .data], laidTests := true, laidLooks := .later }
def FnRootOfSquareCardSaid : Prop := Claim7.holds Tryz.pinned (.plain (OpenSpec.ofChange fnRootOfSquareSpec)) fnRootOfSquareCard

/-- THE TIED CARD OF 'laws.FnInto'. -/
def fnIntoCard : Claim7 := { stood := { row := fnIntoRow, standIns := [], harness := (true, "dc9ec77f8b0ae6617eae76e674e48a01b048cc0c5fdc63860a71f12ac5f4bff3"), looks := false }, kinds := [], alts := [], laidByText := true, laidKinds := [.data, .data, .data, .data, .data, .data], laidTests := true, laidLooks := .later }
def FnIntoCardSaid : Prop := Claim7.holds Tryz.pinned (.plain (OpenSpec.ofChange fnIntoSpec)) fnIntoCard

/-- THE TIED CARD OF 'laws.FnAsFloat64'. -/
def fnAsFloat64Card : Claim7 := { stood := { row := fnAsFloat64Row, standIns := [], harness := (true, "dc9ec77f8b0ae6617eae76e674e48a01b048cc0c5fdc63860a71f12ac5f4bff3"), looks := false }, kinds := [], alts := [], laidByText := true, laidKinds := [.data, .data, .data, .data, .data, .data], laidTests := true, laidLooks := .later }
def FnAsFloat64CardSaid : Prop := Claim7.holds Tryz.pinned (.plain (OpenSpec.ofChange fnAsFloat64Spec)) fnAsFloat64Card

/-- THE SECOND FORM's CARD OF 'laws.FnRatInto'. -/
def fnRatIntoUptoCard : Claim7 := { stood := { row := fnRatIntoUptoRow, standIns := [], harness := (true, "dc9ec77f8b0ae6617eae76e674e48a01b048cc0c5fdc63860a71f12ac5f4bff3"), looks := false }, kinds := [], alts := [], laidByText := true, laidKinds := [.data, .data, .data, .data], laidTests := true, laidLooks := .later }
def FnRatIntoUptoCardSaid : Prop := Claim7.holds Tryz.pinned (.plain (OpenSpec.upto fnRatIntoSpec)) fnRatIntoUptoCard

/-- THE SECOND FORM's CARD OF 'laws.FnSqrt'. -/
def fnSqrtUptoCard : Claim7 := { stood := { row := fnSqrtUptoRow, standIns := [], harness := (true, "dc9ec77f8b0ae6617eae76e674e48a01b048cc0c5fdc63860a71f12ac5f4bff3"), looks := false }, kinds := [], alts := [], laidByText := true, laidKinds := [.data, .data, .data, .data, .data], laidTests := true, laidLooks := .later }
def FnSqrtUptoCardSaid : Prop := Claim7.holds Tryz.pinned (.plain (OpenSpec.upto fnSqrtSpec)) fnSqrtUptoCard

/-- THE SECOND FORM's CARD OF 'laws.FnRootOfSquare'. -/
def fnRootOfSquareUptoCard : Claim7 := { stood := { row := fnRootOfSquareUptoRow, standIns := [], harness := (true, "dc9ec77f8b0ae6617eae76e674e48a01b048cc0c5fdc63860a71f12ac5f4bff3"), looks := false }, kinds := [], alts := [], laidByText := true, laidKinds := [.data, .data, .data, .data, .data], laidTests := true, laidLooks := .later }
def FnRootOfSquareUptoCardSaid : Prop := Claim7.holds Tryz.pinned (.plain (OpenSpec.upto fnRootOfSquareSpec)) fnRootOfSquareUptoCard

/-- THE SECOND FORM's CARD OF 'laws.FnInto'. -/
def fnIntoUptoCard : Claim7 := { stood := { row := fnIntoUptoRow, standIns := [], harness := (true, "dc9ec77f8b0ae6617eae76e674e48a01b048cc0c5fdc63860a71f12ac5f4bff3"), looks := false }, kinds := [], alts := [], laidByText := true, laidKinds := [.data, .data, .data, .data, .data, .data], laidTests := true, laidLooks := .later }
def FnIntoUptoCardSaid : Prop := Claim7.holds Tryz.pinned (.plain (OpenSpec.upto fnIntoSpec)) fnIntoUptoCard

/-- THE SECOND FORM's CARD OF 'laws.FnAsFloat64'. -/
def fnAsFloat64UptoCard : Claim7 := { stood := { row := fnAsFloat64UptoRow, standIns := [], harness := (true, "dc9ec77f8b0ae6617eae76e674e48a01b048cc0c5fdc63860a71f12ac5f4bff3"), looks := false }, kinds := [], alts := [], laidByText := true, laidKinds := [.data, .data, .data, .data, .data, .data], laidTests := true, laidLooks := .later }
def FnAsFloat64UptoCardSaid : Prop := Claim7.holds Tryz.pinned (.plain (OpenSpec.upto fnAsFloat64Spec)) fnAsFloat64UptoCard
end Rows
end Go.Proofs.YtllhnjpnkmjopaaGreatDoor
