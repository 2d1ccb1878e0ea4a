/-
  DERIVED. GIVEN WITH THE SEED: THE CARDS: each row of YtjgkmnmemjebbaaDoorRows.lean that lists a variable, with what it lists TIED to the program's text (the seventh form; the later family's looks); each row that meets fmt, with fmt's text TOLD by the authors' own Lean function (tested against real Go, not proved from fmt's source: count such statements apart). THE CARD IS WHAT COUNTS. Prove the row's statement (the work); the ties are given (YtjgkmnmemjebbaaDoorTie.lean); close each card by the builder's one call (the guide's Derived/Test/ToyasCard.lean, 'card_holds'). Laid BY PROGRAM, IN A SANDBOX (cutbox-door.mjs). By AI agents, Wed Nov 11 2026. No macro, syntax, notation, axiom, sorry.
-/
import Derived.Test.YtjgkmnmemjebbaaDoorRows
import GoSem.ClaimSeven
namespace Go.Proofs.YtjgkmnmemjebbaaDoor
namespace Rows

/-- THE TIED CARD OF 'laws.FnSet'. -/
def fnSetCard : Claim7 := { stood := { row := fnSetRow, standIns := [], harness := (true, "70258f05d72bf465129ba22d27a0a34eb5e87a1e9453bfff348308a8f5035df5"), looks := false }, kinds := [], alts := [], laidByText := true, laidKinds := [.data, .data], laidTests := true, laidLooks := .later }
def FnSetCardSaid : Prop := Claim7.holds Tryd.pinned (.plain (OpenSpec.ofChange fnSetSpec)) fnSetCard

/-- THE TIED CARD OF 'laws.FnSetPrec'. -/
def fnSetPrecCard : Claim7 := { stood := { row := fnSetPrecRow, standIns := [], harness := (true, "70258f05d72bf465129ba22d27a0a34eb5e87a1e9453bfff348308a8f5035df5"), looks := false }, kinds := [], alts := [], laidByText := true, laidKinds := [.data, .data], laidTests := true, laidLooks := .later }
def FnSetPrecCardSaid : Prop := Claim7.holds Tryd.pinned (.plain (OpenSpec.ofChange fnSetPrecSpec)) fnSetPrecCard

/-- THE TIED CARD OF 'laws.FnSetPrecZero'. -/
def fnSetPrecZeroCard : Claim7 := { stood := { row := fnSetPrecZeroRow, standIns := [], harness := (true, "70258f05d72bf465129ba22d27a0a34eb5e87a1e9453bfff348308a8f5035df5"), looks := false }, kinds := [], alts := [], laidByText := true, laidKinds := [.data, .data], laidTests := true, laidLooks := .later }
def FnSetPrecZeroCardSaid : Prop := Claim7.holds Tryd.pinned (.plain (OpenSpec.ofChange fnSetPrecZeroSpec)) fnSetPrecZeroCard

/-- THE TIED CARD OF 'laws.FnSetMantExp'. -/
def fnSetMantExpCard : Claim7 := { stood := { row := fnSetMantExpRow, standIns := [], harness := (true, "70258f05d72bf465129ba22d27a0a34eb5e87a1e9453bfff348308a8f5035df5"), looks := false }, kinds := [], alts := [], laidByText := true, laidKinds := [.data, .data], laidTests := true, laidLooks := .later }
def FnSetMantExpCardSaid : Prop := Claim7.holds Tryd.pinned (.plain (OpenSpec.ofChange fnSetMantExpSpec)) fnSetMantExpCard

/-- THE TIED CARD OF 'laws.FnMantExp'. -/
def fnMantExpCard : Claim7 := { stood := { row := fnMantExpRow, standIns := [], harness := (true, "70258f05d72bf465129ba22d27a0a34eb5e87a1e9453bfff348308a8f5035df5"), looks := false }, kinds := [], alts := [], laidByText := true, laidKinds := [.data, .data], laidTests := true, laidLooks := .later }
def FnMantExpCardSaid : Prop := Claim7.holds Tryd.pinned (.plain (OpenSpec.ofChange fnMantExpSpec)) fnMantExpCard

/-- THE TIED CARD OF 'laws.FnNeg'. -/
def fnNegCard : Claim7 := { stood := { row := fnNegRow, standIns := [], harness := (true, "70258f05d72bf465129ba22d27a0a34eb5e87a1e9453bfff348308a8f5035df5"), looks := false }, kinds := [], alts := [], laidByText := true, laidKinds := [.data, .data], laidTests := true, laidLooks := .later }
def FnNegCardSaid : Prop := Claim7.holds Tryd.pinned (.plain (OpenSpec.ofChange fnNegSpec)) fnNegCard

/-- THE TIED CARD OF 'laws.FnAbs'. -/
def fnAbsCard : Claim7 := { stood := { row := fnAbsRow, standIns := [], harness := (true, "70258f05d72bf465129ba22d27a0a34eb5e87a1e9453bfff348308a8f5035df5"), looks := false }, kinds := [], alts := [], laidByText := true, laidKinds := [.data, .data], laidTests := true, laidLooks := .later }
def FnAbsCardSaid : Prop := Claim7.holds Tryd.pinned (.plain (OpenSpec.ofChange fnAbsSpec)) fnAbsCard

/-- THE TIED CARD OF 'laws.FnTwice'. -/
def fnTwiceCard : Claim7 := { stood := { row := fnTwiceRow, standIns := [], harness := (true, "70258f05d72bf465129ba22d27a0a34eb5e87a1e9453bfff348308a8f5035df5"), looks := false }, kinds := [], alts := [], laidByText := true, laidKinds := [.data, .data], laidTests := true, laidLooks := .later }
def FnTwiceCardSaid : Prop := Claim7.holds Tryd.pinned (.plain (OpenSpec.ofChange fnTwiceSpec)) fnTwiceCard

/-- THE TIED CARD OF 'laws.FnMantBack'. -/
def fnMantBackCard : Claim7 := { stood := { row := fnMantBackRow, standIns := [], harness := (true, "70258f05d72bf465129ba22d27a0a34eb5e87a1e9453bfff348308a8f5035df5"), looks := false }, kinds := [], alts := [], laidByText := true, laidKinds := [.data, .data], laidTests := true, laidLooks := .later }
def FnMantBackCardSaid : Prop := Claim7.holds Tryd.pinned (.plain (OpenSpec.ofChange fnMantBackSpec)) fnMantBackCard

/-- THE TIED CARD OF 'laws.FnMinPrec'. -/
def fnMinPrecCard : Claim7 := { stood := { row := fnMinPrecRow, standIns := [], harness := (true, "70258f05d72bf465129ba22d27a0a34eb5e87a1e9453bfff348308a8f5035df5"), looks := false }, kinds := [], alts := [], laidByText := true, laidKinds := [.data, .data], laidTests := true, laidLooks := .later }
def FnMinPrecCardSaid : Prop := Claim7.holds Tryd.pinned (.plain (OpenSpec.ofChange fnMinPrecSpec)) fnMinPrecCard

/-- THE TIED CARD OF 'laws.FnIsInt'. -/
def fnIsIntCard : Claim7 := { stood := { row := fnIsIntRow, standIns := [], harness := (true, "70258f05d72bf465129ba22d27a0a34eb5e87a1e9453bfff348308a8f5035df5"), looks := false }, kinds := [], alts := [], laidByText := true, laidKinds := [.data, .data], laidTests := true, laidLooks := .later }
def FnIsIntCardSaid : Prop := Claim7.holds Tryd.pinned (.plain (OpenSpec.ofChange fnIsIntSpec)) fnIsIntCard

/-- THE TIED CARD OF 'laws.FnInt'. -/
def fnIntCard : Claim7 := { stood := { row := fnIntRow, standIns := [], harness := (true, "70258f05d72bf465129ba22d27a0a34eb5e87a1e9453bfff348308a8f5035df5"), looks := false }, kinds := [], alts := [], laidByText := true, laidKinds := [.data, .data], laidTests := true, laidLooks := .later }
def FnIntCardSaid : Prop := Claim7.holds Tryd.pinned (.plain (OpenSpec.ofChange fnIntSpec)) fnIntCard

/-- THE SECOND FORM's CARD OF 'laws.FnSet'. -/
def fnSetUptoCard : Claim7 := { stood := { row := fnSetUptoRow, standIns := [], harness := (true, "70258f05d72bf465129ba22d27a0a34eb5e87a1e9453bfff348308a8f5035df5"), looks := false }, kinds := [], alts := [], laidByText := true, laidKinds := [.data, .data], laidTests := true, laidLooks := .later }
def FnSetUptoCardSaid : Prop := Claim7.holds Tryd.pinned (.plain (OpenSpec.upto fnSetSpec)) fnSetUptoCard

/-- THE SECOND FORM's CARD OF 'laws.FnSetPrec'. -/
def fnSetPrecUptoCard : Claim7 := { stood := { row := fnSetPrecUptoRow, standIns := [], harness := (true, "70258f05d72bf465129ba22d27a0a34eb5e87a1e9453bfff348308a8f5035df5"), looks := false }, kinds := [], alts := [], laidByText := true, laidKinds := [.data, .data], laidTests := true, laidLooks := .later }
def FnSetPrecUptoCardSaid : Prop := Claim7.holds Tryd.pinned (.plain (OpenSpec.upto fnSetPrecSpec)) fnSetPrecUptoCard

/-- THE SECOND FORM's CARD OF 'laws.FnSetPrecZero'. -/
def fnSetPrecZeroUptoCard : Claim7 := { stood := { row := fnSetPrecZeroUptoRow, standIns := [], harness := (true, "70258f05d72bf465129ba22d27a0a34eb5e87a1e9453bfff348308a8f5035df5"), looks := false }, kinds := [], alts := [], laidByText := true, laidKinds := [.data, .data], laidTests := true, laidLooks := .later }
def FnSetPrecZeroUptoCardSaid : Prop := Claim7.holds Tryd.pinned (.plain (OpenSpec.upto fnSetPrecZeroSpec)) fnSetPrecZeroUptoCard

/-- THE SECOND FORM's CARD OF 'laws.FnSetMantExp'. -/
def fnSetMantExpUptoCard : Claim7 := { stood := { row := fnSetMantExpUptoRow, standIns := [], harness := (true, "70258f05d72bf465129ba22d27a0a34eb5e87a1e9453bfff348308a8f5035df5"), looks := false }, kinds := [], alts := [], laidByText := true, laidKinds := [.data, .data], laidTests := true, laidLooks := .later }
def FnSetMantExpUptoCardSaid : Prop := Claim7.holds Tryd.pinned (.plain (OpenSpec.upto fnSetMantExpSpec)) fnSetMantExpUptoCard

/-- THE SECOND FORM's CARD OF 'laws.FnMantExp'. -/
def fnMantExpUptoCard : Claim7 := { stood := { row := fnMantExpUptoRow, standIns := [], harness := (true, "70258f05d72bf465129ba22d27a0a34eb5e87a1e9453bfff348308a8f5035df5"), looks := false }, kinds := [], alts := [], laidByText := true, laidKinds := [.data, .data], laidTests := true, laidLooks := .later }
def FnMantExpUptoCardSaid : Prop := Claim7.holds Tryd.pinned (.plain (OpenSpec.upto fnMantExpSpec)) fnMantExpUptoCard

/-- THE SECOND FORM's CARD OF 'laws.FnNeg'. -/
def fnNegUptoCard : Claim7 := { stood := { row := fnNegUptoRow, standIns := [], harness := (true, "70258f05d72bf465129ba22d27a0a34eb5e87a1e9453bfff348308a8f5035df5"), looks := false }, kinds := [], alts := [], laidByText := true, laidKinds := [.data, .data], laidTests := true, laidLooks := .later }
def FnNegUptoCardSaid : Prop := Claim7.holds Tryd.pinned (.plain (OpenSpec.upto fnNegSpec)) fnNegUptoCard

/-- THE SECOND FORM's CARD OF 'laws.FnAbs'. -/
def fnAbsUptoCard : Claim7 := { stood := { row := fnAbsUptoRow, standIns := [], harness := (true, "70258f05d72bf465129ba22d27a0a34eb5e87a1e9453bfff348308a8f5035df5"), looks := false }, kinds := [], alts := [], laidByText := true, laidKinds := [.data, .data], laidTests := true, laidLooks := .later }
def FnAbsUptoCardSaid : Prop := Claim7.holds Tryd.pinned (.plain (OpenSpec.upto fnAbsSpec)) fnAbsUptoCard

/-- THE SECOND FORM's CARD OF 'laws.FnTwice'. -/
def fnTwiceUptoCard : Claim7 := { stood := { row := fnTwiceUptoRow, standIns := [], harness := (true, "70258f05d72bf465129ba22d27a0a34eb5e87a1e9453bfff348308a8f5035df5"), looks := false }, kinds := [], alts := [], laidByText := true, laidKinds := [.data, .data], laidTests := true, laidLooks := .later }
def FnTwiceUptoCardSaid : Prop := Claim7.holds Tryd.pinned (.plain (OpenSpec.upto fnTwiceSpec)) fnTwiceUptoCard

/-- THE SECOND FORM's CARD OF 'laws.FnMantBack'. -/
def fnMantBackUptoCard : Claim7 := { stood := { row := fnMantBackUptoRow, standIns := [], harness := (true, "70258f05d72bf465129ba22d27a0a34eb5e87a1e9453bfff348308a8f5035df5"), looks := false }, kinds := [], alts := [], laidByText := true, laidKinds := [.data, .data], laidTests := true, laidLooks := .later }
def FnMantBackUptoCardSaid : Prop := Claim7.holds Tryd.pinned (.plain (OpenSpec.upto fnMantBackSpec)) fnMantBackUptoCard

/-- THE SECOND FORM's CARD OF 'laws.FnMinPrec'. -/
def fnMinPrecUptoCard : Claim7 := { stood := { row := fnMinPrecUptoRow, standIns := [], harness := (true, "70258f05d72bf465129ba22d27a0a34eb5e87a1e9453bfff348308a8f5035df5"), looks := false }, kinds := [], alts := [], laidByText := true, laidKinds := [.data, .data], laidTests := true, laidLooks := .later }
def FnMinPrecUptoCardSaid : Prop := Claim7.holds Tryd.pinned (.plain (OpenSpec.upto fnMinPrecSpec)) fnMinPrecUptoCard

/-- THE SECOND FORM's CARD OF 'laws.FnIsInt'. -/
def fnIsIntUptoCard : Claim7 := { stood := { row := fnIsIntUptoRow, standIns := [], harness := (true, "70258f05d72bf465129ba22d27a0a34eb5e87a1e9453bfff348308a8f5035df5"), looks := false }, kinds := [], alts := [], laidByText := true, laidKinds := [.data, .data], laidTests := true, laidLooks := .later }
def FnIsIntUptoCardSaid : Prop := Claim7.holds Tryd.pinned (.plain (OpenSpec.upto fnIsIntSpec)) fnIsIntUptoCard

/-- THE SECOND FORM's CARD OF 'laws.FnInt'. -/
def fnIntUptoCard : Claim7 := { stood := { row := fnIntUptoRow, standIns := [], harness := (true, "70258f05d72bf465129ba22d27a0a34eb5e87a1e9453bfff348308a8f5035df5"), looks := false }, kinds := [], alts := [], laidByText := true, laidKinds := [.data, .data], laidTests := true, laidLooks := .later }
def FnIntUptoCardSaid : Prop := Claim7.holds Tryd.pinned (.plain (OpenSpec.upto fnIntSpec)) fnIntUptoCard
end Rows
end Go.Proofs.YtjgkmnmemjebbaaDoor
