/-
  DERIVED. GIVEN WITH THE SEED: THE CARDS: each row of YtkhhoamcnocjlaaGreatDoorRows.lean that lists a variable, with what it lists TIED to the program's text (the seventh form; the later family's looks); each row that meets fmt, with fmt's text TOLD by the authors' own Lean function (tested against real Go, not proved from fmt's source: count such statements apart). THE CARD IS WHAT COUNTS. Prove the row's statement (the work); the ties are given (YtkhhoamcnocjlaaGreatDoorTie.lean); close each card by the builder's one call (the guide's Derived/Test/ToyasCard.lean, 'card_holds'). Laid BY PROGRAM, IN A SANDBOX (cutbox-door.mjs). By AI agents, Wed Nov 11 2026. No macro, syntax, notation, axiom, sorry.
-/
import Derived.Test.YtkhhoamcnocjlaaGreatDoorRows
import GoSem.ClaimSeven
namespace Go.Proofs.YtkhhoamcnocjlaaGreatDoor
namespace Rows

/-- THE TIED CARD OF 'laws.FnKept'. -/
def fnKeptCard : Claim7 := { stood := { row := fnKeptRow, standIns := [], harness := (true, "2f0b7278236c3171c59a76cc1456bcf29e58055653166576479e2d5f1fbde809"), looks := false }, kinds := [], alts := [], laidByText := true, laidKinds := [.data, .data], laidTests := true, laidLooks := .later }
def FnKeptCardSaid : Prop := Claim7.holds Tryz.pinned (.plain (OpenSpec.ofChange fnKeptSpec)) fnKeptCard

/-- THE TIED CARD OF 'laws.FnSterbenz'. -/
def fnSterbenzCard : Claim7 := { stood := { row := fnSterbenzRow, standIns := [], harness := (true, "2f0b7278236c3171c59a76cc1456bcf29e58055653166576479e2d5f1fbde809"), looks := false }, kinds := [], alts := [], laidByText := true, laidKinds := [.data, .data], laidTests := true, laidLooks := .later }
def FnSterbenzCardSaid : Prop := Claim7.holds Tryz.pinned (.plain (OpenSpec.ofChange fnSterbenzSpec)) fnSterbenzCard

/-- THE TIED CARD OF 'laws.FnFrac'. -/
def fnFracCard : Claim7 := { stood := { row := fnFracRow, standIns := [], harness := (true, "2f0b7278236c3171c59a76cc1456bcf29e58055653166576479e2d5f1fbde809"), looks := false }, kinds := [], alts := [], laidByText := true, laidKinds := [.data, .data, .data, .data], laidTests := true, laidLooks := .later }
def FnFracCardSaid : Prop := Claim7.holds Tryz.pinned (.plain (OpenSpec.ofChange fnFracSpec)) fnFracCard

/-- THE TIED CARD OF 'laws.FnRatAdd'. -/
def fnRatAddCard : Claim7 := { stood := { row := fnRatAddRow, standIns := [], harness := (true, "2f0b7278236c3171c59a76cc1456bcf29e58055653166576479e2d5f1fbde809"), looks := false }, kinds := [], alts := [], laidByText := true, laidKinds := [.data, .data, .data, .data], laidTests := true, laidLooks := .later }
def FnRatAddCardSaid : Prop := Claim7.holds Tryz.pinned (.plain (OpenSpec.ofChange fnRatAddSpec)) fnRatAddCard

/-- THE SECOND FORM's CARD OF 'laws.FnKept'. -/
def fnKeptUptoCard : Claim7 := { stood := { row := fnKeptUptoRow, standIns := [], harness := (true, "2f0b7278236c3171c59a76cc1456bcf29e58055653166576479e2d5f1fbde809"), looks := false }, kinds := [], alts := [], laidByText := true, laidKinds := [.data, .data], laidTests := true, laidLooks := .later }
def FnKeptUptoCardSaid : Prop := Claim7.holds Tryz.pinned (.plain (OpenSpec.upto fnKeptSpec)) fnKeptUptoCard

/-- THE SECOND FORM's CARD OF 'laws.FnSterbenz'. -/
def fnSterbenzUptoCard : Claim7 := { stood := { row := fnSterbenzUptoRow, standIns := [], harness := (true, "2f0b7278236c3171c59a76cc1456bcf29e58055653166576479e2d5f1fbde809"), looks := false }, kinds := [], alts := [], laidByText := true, laidKinds := [.data, .data], laidTests := true, laidLooks := .later }
def FnSterbenzUptoCardSaid : Prop := Claim7.holds Tryz.pinned (.plain (OpenSpec.upto fnSterbenzSpec)) fnSterbenzUptoCard

/-- THE SECOND FORM's CARD OF 'laws.FnFrac'. -/
def fnFracUptoCard : Claim7 := { stood := { row := fnFracUptoRow, standIns := [], harness := (true, "2f0b7278236c3171c59a76cc1456bcf29e58055653166576479e2d5f1fbde809"), looks := false }, kinds := [], alts := [], laidByText := true, laidKinds := [.data, .data, .data, .data], laidTests := true, laidLooks := .later }
def FnFracUptoCardSaid : Prop := Claim7.holds Tryz.pinned (.plain (OpenSpec.upto fnFracSpec)) fnFracUptoCard

/-- THE SECOND FORM's CARD OF 'laws.FnRatAdd'. -/
def fnRatAddUptoCard : Claim7 := { stood := { row := fnRatAddUptoRow, standIns := [], harness := (true, "2f0b7278236c3171c59a76cc1456bcf29e58055653166576479e2d5f1fbde809"), looks := false }, kinds := [], alts := [], laidByText := true, laidKinds := [.data, .data, .data, .data], laidTests := true, laidLooks := .later }
def FnRatAddUptoCardSaid : Prop := Claim7.holds Tryz.pinned (.plain (OpenSpec.upto fnRatAddSpec)) fnRatAddUptoCard
end Rows
end Go.Proofs.YtkhhoamcnocjlaaGreatDoor
