/-
  DERIVED. GIVEN WITH THE SEED: THE CARDS: each row of YtjapoobegjoblaaDoorRows.lean that lists a variable, with what it lists TIED to the program's text (the seventh form; the later family's looks); each row that meets fmt, with fmt's text TOLD by the authors' own Lean function (tested against real Go, not proved from fmt's source: count such statements apart). THE CARD IS WHAT COUNTS. Prove the row's statement (the work); the ties are given (YtjapoobegjoblaaDoorTie.lean); close each card by the builder's one call (the guide's Derived/Test/ToyasCard.lean, 'card_holds'). Laid BY PROGRAM, IN A SANDBOX (cutbox-door.mjs). By AI agents, Wed Nov 11 2026. No macro, syntax, notation, axiom, sorry.
-/
import Derived.Test.YtjapoobegjoblaaDoorRows
import GoSem.ClaimSeven
namespace Go.Proofs.YtjapoobegjoblaaDoor
namespace Rows

/-- THE TIED CARD OF 'laws.FnInt64'. -/
def fnInt64Card : Claim7 := { stood := { row := fnInt64Row, standIns := [], harness := (true, "1ef34a52b641f02b70e1bf90e19a402059b553737c9b1f205c6cb064811a0f69"), looks := false }, kinds := [], alts := [], laidByText := true, laidKinds := [.data, .data], laidTests := true, laidLooks := .later }
def FnInt64CardSaid : Prop := Claim7.holds Tryd.pinned (.plain (OpenSpec.ofChange fnInt64Spec)) fnInt64Card

/-- THE TIED CARD OF 'laws.FnUint64'. -/
def fnUint64Card : Claim7 := { stood := { row := fnUint64Row, standIns := [], harness := (true, "1ef34a52b641f02b70e1bf90e19a402059b553737c9b1f205c6cb064811a0f69"), looks := false }, kinds := [], alts := [], laidByText := true, laidKinds := [.data, .data], laidTests := true, laidLooks := .later }
def FnUint64CardSaid : Prop := Claim7.holds Tryd.pinned (.plain (OpenSpec.ofChange fnUint64Spec)) fnUint64Card

/-- THE TIED CARD OF 'laws.FnInt'. -/
def fnIntCard : Claim7 := { stood := { row := fnIntRow, standIns := [], harness := (true, "1ef34a52b641f02b70e1bf90e19a402059b553737c9b1f205c6cb064811a0f69"), looks := false }, kinds := [], alts := [], laidByText := true, laidKinds := [.data, .data], laidTests := true, laidLooks := .later }
def FnIntCardSaid : Prop := Claim7.holds Tryd.pinned (.plain (OpenSpec.ofChange fnIntSpec)) fnIntCard

/-- THE TIED CARD OF 'laws.FnSetInt'. -/
def fnSetIntCard : Claim7 := { stood := { row := fnSetIntRow, standIns := [], harness := (true, "1ef34a52b641f02b70e1bf90e19a402059b553737c9b1f205c6cb064811a0f69"), looks := false }, kinds := [], alts := [], laidByText := true, laidKinds := [.data, .data], laidTests := true, laidLooks := .later }
def FnSetIntCardSaid : Prop := Claim7.holds Tryd.pinned (.plain (OpenSpec.ofChange fnSetIntSpec)) fnSetIntCard

/-- THE TIED CARD OF 'laws.FnRoundInt'. -/
def fnRoundIntCard : Claim7 := { stood := { row := fnRoundIntRow, standIns := [], harness := (true, "1ef34a52b641f02b70e1bf90e19a402059b553737c9b1f205c6cb064811a0f69"), looks := false }, kinds := [], alts := [], laidByText := true, laidKinds := [.data, .data], laidTests := true, laidLooks := .later }
def FnRoundIntCardSaid : Prop := Claim7.holds Tryd.pinned (.plain (OpenSpec.ofChange fnRoundIntSpec)) fnRoundIntCard

/-- THE TIED CARD OF 'laws.FnScaleInt'. -/
def fnScaleIntCard : Claim7 := { stood := { row := fnScaleIntRow, standIns := [], harness := (true, "1ef34a52b641f02b70e1bf90e19a402059b553737c9b1f205c6cb064811a0f69"), looks := false }, kinds := [], alts := [], laidByText := true, laidKinds := [.data, .data], laidTests := true, laidLooks := .later }
def FnScaleIntCardSaid : Prop := Claim7.holds Tryd.pinned (.plain (OpenSpec.ofChange fnScaleIntSpec)) fnScaleIntCard

/-- THE TIED CARD OF 'laws.FnAddInt'. -/
def fnAddIntCard : Claim7 := { stood := { row := fnAddIntRow, standIns := [], harness := (true, "1ef34a52b641f02b70e1bf90e19a402059b553737c9b1f205c6cb064811a0f69"), looks := false }, kinds := [], alts := [], laidByText := true, laidKinds := [.data, .data], laidTests := true, laidLooks := .later }
def FnAddIntCardSaid : Prop := Claim7.holds Tryd.pinned (.plain (OpenSpec.ofChange fnAddIntSpec)) fnAddIntCard

/-- THE TIED CARD OF 'laws.FnSubInt'. -/
def fnSubIntCard : Claim7 := { stood := { row := fnSubIntRow, standIns := [], harness := (true, "1ef34a52b641f02b70e1bf90e19a402059b553737c9b1f205c6cb064811a0f69"), looks := false }, kinds := [], alts := [], laidByText := true, laidKinds := [.data, .data], laidTests := true, laidLooks := .later }
def FnSubIntCardSaid : Prop := Claim7.holds Tryd.pinned (.plain (OpenSpec.ofChange fnSubIntSpec)) fnSubIntCard

/-- THE TIED CARD OF 'laws.FnSetFloat64'. -/
def fnSetFloat64Card : Claim7 := { stood := { row := fnSetFloat64Row, standIns := [], harness := (true, "1ef34a52b641f02b70e1bf90e19a402059b553737c9b1f205c6cb064811a0f69"), looks := false }, kinds := [], alts := [], laidByText := true, laidKinds := [.data, .data], laidTests := true, laidLooks := .later }
def FnSetFloat64CardSaid : Prop := Claim7.holds Tryd.pinned (.plain (OpenSpec.ofChange fnSetFloat64Spec)) fnSetFloat64Card

/-- THE TIED CARD OF 'laws.FnWholeBits'. -/
def fnWholeBitsCard : Claim7 := { stood := { row := fnWholeBitsRow, standIns := [], harness := (true, "1ef34a52b641f02b70e1bf90e19a402059b553737c9b1f205c6cb064811a0f69"), looks := false }, kinds := [], alts := [], laidByText := true, laidKinds := [.data, .data], laidTests := true, laidLooks := .later }
def FnWholeBitsCardSaid : Prop := Claim7.holds Tryd.pinned (.plain (OpenSpec.ofChange fnWholeBitsSpec)) fnWholeBitsCard

/-- THE SECOND FORM's CARD OF 'laws.FnInt64'. -/
def fnInt64UptoCard : Claim7 := { stood := { row := fnInt64UptoRow, standIns := [], harness := (true, "1ef34a52b641f02b70e1bf90e19a402059b553737c9b1f205c6cb064811a0f69"), looks := false }, kinds := [], alts := [], laidByText := true, laidKinds := [.data, .data], laidTests := true, laidLooks := .later }
def FnInt64UptoCardSaid : Prop := Claim7.holds Tryd.pinned (.plain (OpenSpec.upto fnInt64Spec)) fnInt64UptoCard

/-- THE SECOND FORM's CARD OF 'laws.FnUint64'. -/
def fnUint64UptoCard : Claim7 := { stood := { row := fnUint64UptoRow, standIns := [], harness := (true, "1ef34a52b641f02b70e1bf90e19a402059b553737c9b1f205c6cb064811a0f69"), looks := false }, kinds := [], alts := [], laidByText := true, laidKinds := [.data, .data], laidTests := true, laidLooks := .later }
def FnUint64UptoCardSaid : Prop := Claim7.holds Tryd.pinned (.plain (OpenSpec.upto fnUint64Spec)) fnUint64UptoCard

/-- THE SECOND FORM's CARD OF 'laws.FnInt'. -/
def fnIntUptoCard : Claim7 := { stood := { row := fnIntUptoRow, standIns := [], harness := (true, "1ef34a52b641f02b70e1bf90e19a402059b553737c9b1f205c6cb064811a0f69"), looks := false }, kinds := [], alts := [], laidByText := true, laidKinds := [.data, .data], laidTests := true, laidLooks := .later }
def FnIntUptoCardSaid : Prop := Claim7.holds Tryd.pinned (.plain (OpenSpec.upto fnIntSpec)) fnIntUptoCard

/-- THE SECOND FORM's CARD OF 'laws.FnSetInt'. -/
def fnSetIntUptoCard : Claim7 := { stood := { row := fnSetIntUptoRow, standIns := [], harness := (true, "1ef34a52b641f02b70e1bf90e19a402059b553737c9b1f205c6cb064811a0f69"), looks := false }, kinds := [], alts := [], laidByText := true, laidKinds := [.data, .data], laidTests := true, laidLooks := .later }
def FnSetIntUptoCardSaid : Prop := Claim7.holds Tryd.pinned (.plain (OpenSpec.upto fnSetIntSpec)) fnSetIntUptoCard

/-- THE SECOND FORM's CARD OF 'laws.FnRoundInt'. -/
def fnRoundIntUptoCard : Claim7 := { stood := { row := fnRoundIntUptoRow, standIns := [], harness := (true, "1ef34a52b641f02b70e1bf90e19a402059b553737c9b1f205c6cb064811a0f69"), looks := false }, kinds := [], alts := [], laidByText := true, laidKinds := [.data, .data], laidTests := true, laidLooks := .later }
def FnRoundIntUptoCardSaid : Prop := Claim7.holds Tryd.pinned (.plain (OpenSpec.upto fnRoundIntSpec)) fnRoundIntUptoCard

/-- THE SECOND FORM's CARD OF 'laws.FnScaleInt'. -/
def fnScaleIntUptoCard : Claim7 := { stood := { row := fnScaleIntUptoRow, standIns := [], harness := (true, "1ef34a52b641f02b70e1bf90e19a402059b553737c9b1f205c6cb064811a0f69"), looks := false }, kinds := [], alts := [], laidByText := true, laidKinds := [.data, .data], laidTests := true, laidLooks := .later }
def FnScaleIntUptoCardSaid : Prop := Claim7.holds Tryd.pinned (.plain (OpenSpec.upto fnScaleIntSpec)) fnScaleIntUptoCard

/-- THE SECOND FORM's CARD OF 'laws.FnAddInt'. -/
def fnAddIntUptoCard : Claim7 := { stood := { row := fnAddIntUptoRow, standIns := [], harness := (true, "1ef34a52b641f02b70e1bf90e19a402059b553737c9b1f205c6cb064811a0f69"), looks := false }, kinds := [], alts := [], laidByText := true, laidKinds := [.data, .data], laidTests := true, laidLooks := .later }
def FnAddIntUptoCardSaid : Prop := Claim7.holds Tryd.pinned (.plain (OpenSpec.upto fnAddIntSpec)) fnAddIntUptoCard

/-- THE SECOND FORM's CARD OF 'laws.FnSubInt'. -/
def fnSubIntUptoCard : Claim7 := { stood := { row := fnSubIntUptoRow, standIns := [], harness := (true, "1ef34a52b641f02b70e1bf90e19a402059b553737c9b1f205c6cb064811a0f69"), looks := false }, kinds := [], alts := [], laidByText := true, laidKinds := [.data, .data], laidTests := true, laidLooks := .later }
def FnSubIntUptoCardSaid : Prop := Claim7.holds Tryd.pinned (.plain (OpenSpec.upto fnSubIntSpec)) fnSubIntUptoCard

/-- THE SECOND FORM's CARD OF 'laws.FnSetFloat64'. -/
def fnSetFloat64UptoCard : Claim7 := { stood := { row := fnSetFloat64UptoRow, standIns := [], harness := (true, "1ef34a52b641f02b70e1bf90e19a402059b553737c9b1f205c6cb064811a0f69"), looks := false }, kinds := [], alts := [], laidByText := true, laidKinds := [.data, .data], laidTests := true, laidLooks := .later }
def FnSetFloat64UptoCardSaid : Prop := Claim7.holds Tryd.pinned (.plain (OpenSpec.upto fnSetFloat64Spec)) fnSetFloat64UptoCard

/-- THE SECOND FORM's CARD OF 'laws.FnWholeBits'. -/
def fnWholeBitsUptoCard : Claim7 := { stood := { row := fnWholeBitsUptoRow, standIns := [], harness := (true, "1ef34a52b641f02b70e1bf90e19a402059b553737c9b1f205c6cb064811a0f69"), looks := false }, kinds := [], alts := [], laidByText := true, laidKinds := [.data, .data], laidTests := true, laidLooks := .later }
def FnWholeBitsUptoCardSaid : Prop := Claim7.holds Tryd.pinned (.plain (OpenSpec.upto fnWholeBitsSpec)) fnWholeBitsUptoCard
end Rows
end Go.Proofs.YtjapoobegjoblaaDoor
