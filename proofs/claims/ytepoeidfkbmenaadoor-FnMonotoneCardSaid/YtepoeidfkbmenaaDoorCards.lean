/-
  DERIVED. GIVEN WITH THE SEED: THE CARDS: each row of YtepoeidfkbmenaaDoorRows.lean that lists a variable, with what it lists TIED to the program's text (the seventh form; the later family's looks); each row that meets fmt, with fmt's text TOLD by the authors' own Lean function (tested against real Go, not proved from fmt's source: count such statements apart). THE CARD IS WHAT COUNTS. Prove the row's statement (the work); the ties are given (YtepoeidfkbmenaaDoorTie.lean); close each card by the builder's one call (the guide's Derived/Test/ToyasCard.lean, 'card_holds'). Laid BY PROGRAM, IN A SANDBOX (cutbox-door.mjs). By AI agents, Wed Nov 11 2026. No macro, syntax, notation, axiom, sorry.
-/
import Derived.Test.YtepoeidfkbmenaaDoorRows
import GoSem.ClaimSeven
namespace Go.Proofs.YtepoeidfkbmenaaDoor
namespace Rows

/-- THE TIED CARD OF 'laws.FnInt64'. -/
def fnInt64Card : Claim7 := { stood := { row := fnInt64Row, standIns := [], harness := (true, "8bc6410d2e2072f0f9b20fb0205e59a070564752c6f34b1ee31296a4f63069f9"), looks := false }, kinds := [], alts := [], laidByText := true, laidKinds := [.data, .data], laidTests := true, laidLooks := .later }
def FnInt64CardSaid : Prop := Claim7.holds Tryd.pinned (.plain (OpenSpec.ofChange fnInt64Spec)) fnInt64Card

/-- THE TIED CARD OF 'laws.FnUint64'. -/
def fnUint64Card : Claim7 := { stood := { row := fnUint64Row, standIns := [], harness := (true, "8bc6410d2e2072f0f9b20fb0205e59a070564752c6f34b1ee31296a4f63069f9"), looks := false }, kinds := [], alts := [], laidByText := true, laidKinds := [.data, .data], laidTests := true, laidLooks := .later }
def FnUint64CardSaid : Prop := Claim7.holds Tryd.pinned (.plain (OpenSpec.ofChange fnUint64Spec)) fnUint64Card

/-- THE TIED CARD OF 'laws.FnInt'. -/
def fnIntCard : Claim7 := { stood := { row := fnIntRow, standIns := [], harness := (true, "8bc6410d2e2072f0f9b20fb0205e59a070564752c6f34b1ee31296a4f63069f9"), looks := false }, kinds := [], alts := [], laidByText := true, laidKinds := [.data, .data], laidTests := true, laidLooks := .later }
def FnIntCardSaid : Prop := Claim7.holds Tryd.pinned (.plain (OpenSpec.ofChange fnIntSpec)) fnIntCard

/-- THE TIED CARD OF 'laws.FnSetInt'. -/
def fnSetIntCard : Claim7 := { stood := { row := fnSetIntRow, standIns := [], harness := (true, "8bc6410d2e2072f0f9b20fb0205e59a070564752c6f34b1ee31296a4f63069f9"), looks := false }, kinds := [], alts := [], laidByText := true, laidKinds := [.data, .data], laidTests := true, laidLooks := .later }
def FnSetIntCardSaid : Prop := Claim7.holds Tryd.pinned (.plain (OpenSpec.ofChange fnSetIntSpec)) fnSetIntCard

/-- THE TIED CARD OF 'laws.FnRoundInt'. -/
def fnRoundIntCard : Claim7 := { stood := { row := fnRoundIntRow, standIns := [], harness := (true, "8bc6410d2e2072f0f9b20fb0205e59a070564752c6f34b1ee31296a4f63069f9"), looks := false }, kinds := [], alts := [], laidByText := true, laidKinds := [.data, .data], laidTests := true, laidLooks := .later }
def FnRoundIntCardSaid : Prop := Claim7.holds Tryd.pinned (.plain (OpenSpec.ofChange fnRoundIntSpec)) fnRoundIntCard

/-- THE TIED CARD OF 'laws.FnScaleInt'. -/
def fnScaleIntCard : Claim7 := { stood := { row := fnScaleIntRow, standIns := [], harness := (true, "8bc6410d2e2072f0f9b20fb0205e59a070564752c6f34b1ee31296a4f63069f9"), looks := false }, kinds := [], alts := [], laidByText := true, laidKinds := [.data, .data], laidTests := true, laidLooks := .later }
def FnScaleIntCardSaid : Prop := Claim7.holds Tryd.pinned (.plain (OpenSpec.ofChange fnScaleIntSpec)) fnScaleIntCard

/-- THE TIED CARD OF 'laws.FnAddInt'. -/
def fnAddIntCard : Claim7 := { stood := { row := fnAddIntRow, standIns := [], harness := (true, "8bc6410d2e2072f0f9b20fb0205e59a070564752c6f34b1ee31296a4f63069f9"), looks := false }, kinds := [], alts := [], laidByText := true, laidKinds := [.data, .data], laidTests := true, laidLooks := .later }
def FnAddIntCardSaid : Prop := Claim7.holds Tryd.pinned (.plain (OpenSpec.ofChange fnAddIntSpec)) fnAddIntCard

/-- THE TIED CARD OF 'laws.FnSubInt'. -/
def fnSubIntCard : Claim7 := { stood := { row := fnSubIntRow, standIns := [], harness := (true, "8bc6410d2e2072f0f9b20fb0205e59a070564752c6f34b1ee31296a4f63069f9"), looks := false }, kinds := [], alts := [], laidByText := true, laidKinds := [.data, .data], laidTests := true, laidLooks := .later }
def FnSubIntCardSaid : Prop := Claim7.holds Tryd.pinned (.plain (OpenSpec.ofChange fnSubIntSpec)) fnSubIntCard

/-- THE TIED CARD OF 'laws.FnMonotone'. -/
def fnMonotoneCard : Claim7 := { stood := { row := fnMonotoneRow, standIns := [], harness := (true, "8bc6410d2e2072f0f9b20fb0205e59a070564752c6f34b1ee31296a4f63069f9"), looks := false }, kinds := [], alts := [], laidByText := true, laidKinds := [.data, .data], laidTests := true, laidLooks := .later }
def FnMonotoneCardSaid : Prop := Claim7.holds Tryd.pinned (.plain (OpenSpec.ofChange fnMonotoneSpec)) fnMonotoneCard

/-- THE SECOND FORM's CARD OF 'laws.FnInt64'. -/
def fnInt64UptoCard : Claim7 := { stood := { row := fnInt64UptoRow, standIns := [], harness := (true, "8bc6410d2e2072f0f9b20fb0205e59a070564752c6f34b1ee31296a4f63069f9"), looks := false }, kinds := [], alts := [], laidByText := true, laidKinds := [.data, .data], laidTests := true, laidLooks := .later }
def FnInt64UptoCardSaid : Prop := Claim7.holds Tryd.pinned (.plain (OpenSpec.upto fnInt64Spec)) fnInt64UptoCard

/-- THE SECOND FORM's CARD OF 'laws.FnUint64'. -/
def fnUint64UptoCard : Claim7 := { stood := { row := fnUint64UptoRow, standIns := [], harness := (true, "8bc6410d2e2072f0f9b20fb0205e59a070564752c6f34b1ee31296a4f63069f9"), looks := false }, kinds := [], alts := [], laidByText := true, laidKinds := [.data, .data], laidTests := true, laidLooks := .later }
def FnUint64UptoCardSaid : Prop := Claim7.holds Tryd.pinned (.plain (OpenSpec.upto fnUint64Spec)) fnUint64UptoCard

/-- THE SECOND FORM's CARD OF 'laws.FnInt'. -/
def fnIntUptoCard : Claim7 := { stood := { row := fnIntUptoRow, standIns := [], harness := (true, "8bc6410d2e2072f0f9b20fb0205e59a070564752c6f34b1ee31296a4f63069f9"), looks := false }, kinds := [], alts := [], laidByText := true, laidKinds := [.data, .data], laidTests := true, laidLooks := .later }
def FnIntUptoCardSaid : Prop := Claim7.holds Tryd.pinned (.plain (OpenSpec.upto fnIntSpec)) fnIntUptoCard

/-- THE SECOND FORM's CARD OF 'laws.FnSetInt'. -/
def fnSetIntUptoCard : Claim7 := { stood := { row := fnSetIntUptoRow, standIns := [], harness := (true, "8bc6410d2e2072f0f9b20fb0205e59a070564752c6f34b1ee31296a4f63069f9"), looks := false }, kinds := [], alts := [], laidByText := true, laidKinds := [.data, .data], laidTests := true, laidLooks := .later }
def FnSetIntUptoCardSaid : Prop := Claim7.holds Tryd.pinned (.plain (OpenSpec.upto fnSetIntSpec)) fnSetIntUptoCard

/-- THE SECOND FORM's CARD OF 'laws.FnRoundInt'. -/
def fnRoundIntUptoCard : Claim7 := { stood := { row := fnRoundIntUptoRow, standIns := [], harness := (true, "8bc6410d2e2072f0f9b20fb0205e59a070564752c6f34b1ee31296a4f63069f9"), looks := false }, kinds := [], alts := [], laidByText := true, laidKinds := [.data, .data], laidTests := true, laidLooks := .later }
def FnRoundIntUptoCardSaid : Prop := Claim7.holds Tryd.pinned (.plain (OpenSpec.upto fnRoundIntSpec)) fnRoundIntUptoCard

/-- THE SECOND FORM's CARD OF 'laws.FnScaleInt'. -/
def fnScaleIntUptoCard : Claim7 := { stood := { row := fnScaleIntUptoRow, standIns := [], harness := (true, "8bc6410d2e2072f0f9b20fb0205e59a070564752c6f34b1ee31296a4f63069f9"), looks := false }, kinds := [], alts := [], laidByText := true, laidKinds := [.data, .data], laidTests := true, laidLooks := .later }
def FnScaleIntUptoCardSaid : Prop := Claim7.holds Tryd.pinned (.plain (OpenSpec.upto fnScaleIntSpec)) fnScaleIntUptoCard

/-- THE SECOND FORM's CARD OF 'laws.FnAddInt'. -/
def fnAddIntUptoCard : Claim7 := { stood := { row := fnAddIntUptoRow, standIns := [], harness := (true, "8bc6410d2e2072f0f9b20fb0205e59a070564752c6f34b1ee31296a4f63069f9"), looks := false }, kinds := [], alts := [], laidByText := true, laidKinds := [.data, .data], laidTests := true, laidLooks := .later }
def FnAddIntUptoCardSaid : Prop := Claim7.holds Tryd.pinned (.plain (OpenSpec.upto fnAddIntSpec)) fnAddIntUptoCard

/-- THE SECOND FORM's CARD OF 'laws.FnSubInt'. -/
def fnSubIntUptoCard : Claim7 := { stood := { row := fnSubIntUptoRow, standIns := [], harness := (true, "8bc6410d2e2072f0f9b20fb0205e59a070564752c6f34b1ee31296a4f63069f9"), looks := false }, kinds := [], alts := [], laidByText := true, laidKinds := [.data, .data], laidTests := true, laidLooks := .later }
def FnSubIntUptoCardSaid : Prop := Claim7.holds Tryd.pinned (.plain (OpenSpec.upto fnSubIntSpec)) fnSubIntUptoCard

/-- THE SECOND FORM's CARD OF 'laws.FnMonotone'. -/
def fnMonotoneUptoCard : Claim7 := { stood := { row := fnMonotoneUptoRow, standIns := [], harness := (true, "8bc6410d2e2072f0f9b20fb0205e59a070564752c6f34b1ee31296a4f63069f9"), looks := false }, kinds := [], alts := [], laidByText := true, laidKinds := [.data, .data], laidTests := true, laidLooks := .later }
def FnMonotoneUptoCardSaid : Prop := Claim7.holds Tryd.pinned (.plain (OpenSpec.upto fnMonotoneSpec)) fnMonotoneUptoCard
end Rows
end Go.Proofs.YtepoeidfkbmenaaDoor
