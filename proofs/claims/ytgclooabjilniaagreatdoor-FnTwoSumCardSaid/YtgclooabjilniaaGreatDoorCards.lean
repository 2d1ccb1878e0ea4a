/-
  DERIVED. GIVEN WITH THE SEED: THE CARDS: each row of YtgclooabjilniaaGreatDoorRows.lean that lists a variable, with what it lists TIED to the program's text (the seventh form; the later family's looks); each row that meets fmt, with fmt's text TOLD by the authors' own Lean function (tested against real Go, not proved from fmt's source: count such statements apart). THE CARD IS WHAT COUNTS. Prove the row's statement (the work); the ties are given (YtgclooabjilniaaGreatDoorTie.lean); close each card by the builder's one call (the guide's Derived/Test/ToyasCard.lean, 'card_holds'). Laid BY PROGRAM, IN A SANDBOX (cutbox-door.mjs). By AI agents, Wed Nov 11 2026. No macro, syntax, notation, axiom, sorry.
-/
import Derived.Test.YtgclooabjilniaaGreatDoorRows
import GoSem.ClaimSeven
namespace Go.Proofs.YtgclooabjilniaaGreatDoor
namespace Rows

/-- THE TIED CARD OF 'laws.FnMulInt'. -/
def fnMulIntCard : Claim7 := { stood := { row := fnMulIntRow, standIns := [], harness := (true, "2b50ab49bd82f03dd29a00ea460536af9a47d0a8aedca0c4bb28ca4144478e58"), looks := false }, kinds := [], alts := [], laidByText := true, laidKinds := [.data, .data, .data, .data, .data], laidTests := true, laidLooks := .later }
def FnMulIntCardSaid : Prop := Claim7.holds Tryz.pinned (.plain (OpenSpec.ofChange fnMulIntSpec)) fnMulIntCard

/-- THE TIED CARD OF 'laws.FnMul'. -/
def fnMulCard : Claim7 := { stood := { row := fnMulRow, standIns := [], harness := (true, "2b50ab49bd82f03dd29a00ea460536af9a47d0a8aedca0c4bb28ca4144478e58"), looks := false }, kinds := [], alts := [], laidByText := true, laidKinds := [.data, .data, .data, .data, .data], laidTests := true, laidLooks := .later }
def FnMulCardSaid : Prop := Claim7.holds Tryz.pinned (.plain (OpenSpec.ofChange fnMulSpec)) fnMulCard

/-- THE TIED CARD OF 'laws.FnSterbenz'. -/
def fnSterbenzCard : Claim7 := { stood := { row := fnSterbenzRow, standIns := [], harness := (true, "2b50ab49bd82f03dd29a00ea460536af9a47d0a8aedca0c4bb28ca4144478e58"), looks := false }, kinds := [], alts := [], laidByText := true, laidKinds := [.data, .data], laidTests := true, laidLooks := .later }
def FnSterbenzCardSaid : Prop := Claim7.holds Tryz.pinned (.plain (OpenSpec.ofChange fnSterbenzSpec)) fnSterbenzCard

/-- THE TIED CARD OF 'laws.FnTwoSum'. -/
def fnTwoSumCard : Claim7 := { stood := { row := fnTwoSumRow, standIns := [], harness := (true, "2b50ab49bd82f03dd29a00ea460536af9a47d0a8aedca0c4bb28ca4144478e58"), looks := false }, kinds := [], alts := [], laidByText := true, laidKinds := [.data, .data], laidTests := true, laidLooks := .later }
def FnTwoSumCardSaid : Prop := Claim7.holds Tryz.pinned (.plain (OpenSpec.ofChange fnTwoSumSpec)) fnTwoSumCard

/-- THE TIED CARD OF 'laws.FnQuo'. -/
def fnQuoCard : Claim7 := { stood := { row := fnQuoRow, standIns := [], harness := (true, "2b50ab49bd82f03dd29a00ea460536af9a47d0a8aedca0c4bb28ca4144478e58"), looks := false }, kinds := [], alts := [], laidByText := true, laidKinds := [.data, .data, .data, .data, .data, .data], laidTests := true, laidLooks := .later }
def FnQuoCardSaid : Prop := Claim7.holds Tryz.pinned (.plain (OpenSpec.ofChange fnQuoSpec)) fnQuoCard

/-- THE TIED CARD OF 'laws.FnCommute'. -/
def fnCommuteCard : Claim7 := { stood := { row := fnCommuteRow, standIns := [], harness := (true, "2b50ab49bd82f03dd29a00ea460536af9a47d0a8aedca0c4bb28ca4144478e58"), looks := false }, kinds := [], alts := [], laidByText := true, laidKinds := [.data, .data, .data, .data, .data, .data], laidTests := true, laidLooks := .later }
def FnCommuteCardSaid : Prop := Claim7.holds Tryz.pinned (.plain (OpenSpec.ofChange fnCommuteSpec)) fnCommuteCard

/-- THE TIED CARD OF 'laws.FnInfinite'. -/
def fnInfiniteCard : Claim7 := { stood := { row := fnInfiniteRow, standIns := [], harness := (true, "2b50ab49bd82f03dd29a00ea460536af9a47d0a8aedca0c4bb28ca4144478e58"), looks := false }, kinds := [], alts := [], laidByText := true, laidKinds := [.data, .data, .data, .data, .data, .data], laidTests := true, laidLooks := .later }
def FnInfiniteCardSaid : Prop := Claim7.holds Tryz.pinned (.plain (OpenSpec.ofChange fnInfiniteSpec)) fnInfiniteCard

/-- THE TIED CARD OF 'laws.FnScale'. -/
def fnScaleCard : Claim7 := { stood := { row := fnScaleRow, standIns := [], harness := (true, "2b50ab49bd82f03dd29a00ea460536af9a47d0a8aedca0c4bb28ca4144478e58"), looks := false }, kinds := [], alts := [], laidByText := true, laidKinds := [.data, .data, .data, .data, .data, .data], laidTests := true, laidLooks := .later }
def FnScaleCardSaid : Prop := Claim7.holds Tryz.pinned (.plain (OpenSpec.ofChange fnScaleSpec)) fnScaleCard

/-- THE TIED CARD OF 'laws.FnZeroSigns'. -/
def fnZeroSignsCard : Claim7 := { stood := { row := fnZeroSignsRow, standIns := [], harness := (true, "2b50ab49bd82f03dd29a00ea460536af9a47d0a8aedca0c4bb28ca4144478e58"), looks := false }, kinds := [], alts := [], laidByText := true, laidKinds := [.data, .data, .data, .data, .data, .data], laidTests := true, laidLooks := .later }
def FnZeroSignsCardSaid : Prop := Claim7.holds Tryz.pinned (.plain (OpenSpec.ofChange fnZeroSignsSpec)) fnZeroSignsCard

/-- THE TIED CARD OF 'laws.FnInto'. -/
def fnIntoCard : Claim7 := { stood := { row := fnIntoRow, standIns := [], harness := (true, "2b50ab49bd82f03dd29a00ea460536af9a47d0a8aedca0c4bb28ca4144478e58"), looks := false }, kinds := [], alts := [], laidByText := true, laidKinds := [.data, .data, .data, .data, .data, .data], laidTests := true, laidLooks := .later }
def FnIntoCardSaid : Prop := Claim7.holds Tryz.pinned (.plain (OpenSpec.ofChange fnIntoSpec)) fnIntoCard

/-- THE SECOND FORM's CARD OF 'laws.FnMulInt'. -/
def fnMulIntUptoCard : Claim7 := { stood := { row := fnMulIntUptoRow, standIns := [], harness := (true, "2b50ab49bd82f03dd29a00ea460536af9a47d0a8aedca0c4bb28ca4144478e58"), looks := false }, kinds := [], alts := [], laidByText := true, laidKinds := [.data, .data, .data, .data, .data], laidTests := true, laidLooks := .later }
def FnMulIntUptoCardSaid : Prop := Claim7.holds Tryz.pinned (.plain (OpenSpec.upto fnMulIntSpec)) fnMulIntUptoCard

/-- THE SECOND FORM's CARD OF 'laws.FnMul'. -/
def fnMulUptoCard : Claim7 := { stood := { row := fnMulUptoRow, standIns := [], harness := (true, "2b50ab49bd82f03dd29a00ea460536af9a47d0a8aedca0c4bb28ca4144478e58"), looks := false }, kinds := [], alts := [], laidByText := true, laidKinds := [.data, .data, .data, .data, .data], laidTests := true, laidLooks := .later }
def FnMulUptoCardSaid : Prop := Claim7.holds Tryz.pinned (.plain (OpenSpec.upto fnMulSpec)) fnMulUptoCard

/-- THE SECOND FORM's CARD OF 'laws.FnSterbenz'. -/
def fnSterbenzUptoCard : Claim7 := { stood := { row := fnSterbenzUptoRow, standIns := [], harness := (true, "2b50ab49bd82f03dd29a00ea460536af9a47d0a8aedca0c4bb28ca4144478e58"), looks := false }, kinds := [], alts := [], laidByText := true, laidKinds := [.data, .data], laidTests := true, laidLooks := .later }
def FnSterbenzUptoCardSaid : Prop := Claim7.holds Tryz.pinned (.plain (OpenSpec.upto fnSterbenzSpec)) fnSterbenzUptoCard

/-- THE SECOND FORM's CARD OF 'laws.FnTwoSum'. -/
def fnTwoSumUptoCard : Claim7 := { stood := { row := fnTwoSumUptoRow, standIns := [], harness := (true, "2b50ab49bd82f03dd29a00ea460536af9a47d0a8aedca0c4bb28ca4144478e58"), looks := false }, kinds := [], alts := [], laidByText := true, laidKinds := [.data, .data], laidTests := true, laidLooks := .later }
def FnTwoSumUptoCardSaid : Prop := Claim7.holds Tryz.pinned (.plain (OpenSpec.upto fnTwoSumSpec)) fnTwoSumUptoCard

/-- THE SECOND FORM's CARD OF 'laws.FnQuo'. -/
def fnQuoUptoCard : Claim7 := { stood := { row := fnQuoUptoRow, standIns := [], harness := (true, "2b50ab49bd82f03dd29a00ea460536af9a47d0a8aedca0c4bb28ca4144478e58"), looks := false }, kinds := [], alts := [], laidByText := true, laidKinds := [.data, .data, .data, .data, .data, .data], laidTests := true, laidLooks := .later }
def FnQuoUptoCardSaid : Prop := Claim7.holds Tryz.pinned (.plain (OpenSpec.upto fnQuoSpec)) fnQuoUptoCard

/-- THE SECOND FORM's CARD OF 'laws.FnCommute'. -/
def fnCommuteUptoCard : Claim7 := { stood := { row := fnCommuteUptoRow, standIns := [], harness := (true, "2b50ab49bd82f03dd29a00ea460536af9a47d0a8aedca0c4bb28ca4144478e58"), looks := false }, kinds := [], alts := [], laidByText := true, laidKinds := [.data, .data, .data, .data, .data, .data], laidTests := true, laidLooks := .later }
def FnCommuteUptoCardSaid : Prop := Claim7.holds Tryz.pinned (.plain (OpenSpec.upto fnCommuteSpec)) fnCommuteUptoCard

/-- THE SECOND FORM's CARD OF 'laws.FnInfinite'. -/
def fnInfiniteUptoCard : Claim7 := { stood := { row := fnInfiniteUptoRow, standIns := [], harness := (true, "2b50ab49bd82f03dd29a00ea460536af9a47d0a8aedca0c4bb28ca4144478e58"), looks := false }, kinds := [], alts := [], laidByText := true, laidKinds := [.data, .data, .data, .data, .data, .data], laidTests := true, laidLooks := .later }
def FnInfiniteUptoCardSaid : Prop := Claim7.holds Tryz.pinned (.plain (OpenSpec.upto fnInfiniteSpec)) fnInfiniteUptoCard

/-- THE SECOND FORM's CARD OF 'laws.FnScale'. -/
def fnScaleUptoCard : Claim7 := { stood := { row := fnScaleUptoRow, standIns := [], harness := (true, "2b50ab49bd82f03dd29a00ea460536af9a47d0a8aedca0c4bb28ca4144478e58"), looks := false }, kinds := [], alts := [], laidByText := true, laidKinds := [.data, .data, .data, .data, .data, .data], laidTests := true, laidLooks := .later }
def FnScaleUptoCardSaid : Prop := Claim7.holds Tryz.pinned (.plain (OpenSpec.upto fnScaleSpec)) fnScaleUptoCard

/-- THE SECOND FORM's CARD OF 'laws.FnZeroSigns'. -/
def fnZeroSignsUptoCard : Claim7 := { stood := { row := fnZeroSignsUptoRow, standIns := [], harness := (true, "2b50ab49bd82f03dd29a00ea460536af9a47d0a8aedca0c4bb28ca4144478e58"), looks := false }, kinds := [], alts := [], laidByText := true, laidKinds := [.data, .data, .data, .data, .data, .data], laidTests := true, laidLooks := .later }
def FnZeroSignsUptoCardSaid : Prop := Claim7.holds Tryz.pinned (.plain (OpenSpec.upto fnZeroSignsSpec)) fnZeroSignsUptoCard

/-- THE SECOND FORM's CARD OF 'laws.FnInto'. -/
def fnIntoUptoCard : Claim7 := { stood := { row := fnIntoUptoRow, standIns := [], harness := (true, "2b50ab49bd82f03dd29a00ea460536af9a47d0a8aedca0c4bb28ca4144478e58"), looks := false }, kinds := [], alts := [], laidByText := true, laidKinds := [.data, .data, .data, .data, .data, .data], laidTests := true, laidLooks := .later }
def FnIntoUptoCardSaid : Prop := Claim7.holds Tryz.pinned (.plain (OpenSpec.upto fnIntoSpec)) fnIntoUptoCard
end Rows
end Go.Proofs.YtgclooabjilniaaGreatDoor
