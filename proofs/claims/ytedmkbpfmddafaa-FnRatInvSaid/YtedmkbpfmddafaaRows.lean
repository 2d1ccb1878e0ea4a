/-
  No cell of these rows narrows 'for every input' (looked for: loops, veiled, ifaces, maps, wideKeys, modest, calm, conditions, laid).
  DERIVED. THE GIVEN ROWS OF THIS SEAT. 9 by the template 'for every input the law returns true; each argument reads behind the call as it read before'; 0 by the template 'total and deterministic' (their statements: YtedmkbpfmddafaaTotals.lean).
  GIVEN WITH THE SEED: the statements are not yours to turn. If you find one false, say at which input.
  Laid BY PROGRAM, IN A SANDBOX (cutbox-rows.mjs): the forced cells as the released guide's own fill.sh prints them over the translation 930fac782951d81f… (all of the seat's roots in one cut). By AI agents, Wed Nov 11 2026. No macro, syntax, notation, axiom, sorry.
-/
import Derived.Test.YtedmkbpfmddafaaChecked
import GoSem.Claim
import GoSem.ClaimJoined
import GoSem.ClaimMapViews
import Derived.JoinedTies
import Derived.KernelRfl
namespace Go.Proofs.Ytedmkbpfmddafaa
/- THE CELL 'sum', in the pinned program and in every row, IS THE sha256 OF THE DUMP (.gsa) THAT YtedmkbpfmddafaaProg.lean LOADS. Nothing in Lean hashes anything: it is a label: what it is worth is what the hold of that sum in a sandbox is worth. -/
noncomputable def Try.pinned : Pinned := { name := "ytedmkbpfmddafaa", sum := "930fac782951d81f7795bbd8067c4e27c69b3a54d818fef2ff492671b912e52c", checked := Try.checked }
namespace Rows
def none {H : Type} : Left H := { results := [], args := [] }

/-- 'laws.FnDecimalString': WHATEVER THE INPUT: true; the input reads as it did. -/
def fnDecimalStringSpec : ChangeSpec := { name := "fnDecimalString", fn := fun _ => fun
  | [d1, d2] => { results := [.lit (.bool true)], args := [d1, d2] }
  | _ => none }
def fnDecimalStringRow : OpenClaim := { program := "ytedmkbpfmddafaa", sum := "930fac782951d81f7795bbd8067c4e27c69b3a54d818fef2ff492671b912e52c", func := "loop.example/pub-g03235/laws.FnDecimalString", spec := "fnDecimalString", apart := false }
def FnDecimalStringSaid : Prop := fnDecimalStringRow.holds Try.pinned (OpenSpec.ofChange fnDecimalStringSpec)

/-- ITS FALSE NEIGHBOUR: 'it returns false'. Refute it at one input. -/
def fnDecimalStringWrong : ChangeSpec := { name := "fnDecimalString", fn := fun _ => fun
  | [d1, d2] => { results := [.lit (.bool false)], args := [d1, d2] }
  | _ => none }
def FnDecimalStringWrongFalsely : Prop := fnDecimalStringRow.holds Try.pinned (OpenSpec.ofChange fnDecimalStringWrong)

/-- 'laws.FnDecimalShift': WHATEVER THE INPUT: true; the input reads as it did. -/
def fnDecimalShiftSpec : ChangeSpec := { name := "fnDecimalShift", fn := fun _ => fun
  | [d1, d2, d3] => { results := [.lit (.bool true)], args := [d1, d2, d3] }
  | _ => none }
def fnDecimalShiftRow : OpenClaim := { program := "ytedmkbpfmddafaa", sum := "930fac782951d81f7795bbd8067c4e27c69b3a54d818fef2ff492671b912e52c", func := "loop.example/pub-g03235/laws.FnDecimalShift", spec := "fnDecimalShift", apart := false }
def FnDecimalShiftSaid : Prop := fnDecimalShiftRow.holds Try.pinned (OpenSpec.ofChange fnDecimalShiftSpec)

/-- ITS FALSE NEIGHBOUR: 'it returns false'. Refute it at one input. -/
def fnDecimalShiftWrong : ChangeSpec := { name := "fnDecimalShift", fn := fun _ => fun
  | [d1, d2, d3] => { results := [.lit (.bool false)], args := [d1, d2, d3] }
  | _ => none }
def FnDecimalShiftWrongFalsely : Prop := fnDecimalShiftRow.holds Try.pinned (OpenSpec.ofChange fnDecimalShiftWrong)

/-- 'laws.FnDecimalRound': WHATEVER THE INPUT: true; the input reads as it did. -/
def fnDecimalRoundSpec : ChangeSpec := { name := "fnDecimalRound", fn := fun _ => fun
  | [d1, d2, d3, d4] => { results := [.lit (.bool true)], args := [d1, d2, d3, d4] }
  | _ => none }
def fnDecimalRoundRow : OpenClaim := { program := "ytedmkbpfmddafaa", sum := "930fac782951d81f7795bbd8067c4e27c69b3a54d818fef2ff492671b912e52c", func := "loop.example/pub-g03235/laws.FnDecimalRound", spec := "fnDecimalRound", apart := false }
def FnDecimalRoundSaid : Prop := fnDecimalRoundRow.holds Try.pinned (OpenSpec.ofChange fnDecimalRoundSpec)

/-- ITS FALSE NEIGHBOUR: 'it returns false'. Refute it at one input. -/
def fnDecimalRoundWrong : ChangeSpec := { name := "fnDecimalRound", fn := fun _ => fun
  | [d1, d2, d3, d4] => { results := [.lit (.bool false)], args := [d1, d2, d3, d4] }
  | _ => none }
def FnDecimalRoundWrongFalsely : Prop := fnDecimalRoundRow.holds Try.pinned (OpenSpec.ofChange fnDecimalRoundWrong)

/-- 'laws.FnDivWord': WHATEVER THE INPUT: true; the input reads as it did. -/
def fnDivWordSpec : ChangeSpec := { name := "fnDivWord", fn := fun _ => fun
  | [d1, d2] => { results := [.lit (.bool true)], args := [d1, d2] }
  | _ => none }
def fnDivWordRow : OpenClaim := { program := "ytedmkbpfmddafaa", sum := "930fac782951d81f7795bbd8067c4e27c69b3a54d818fef2ff492671b912e52c", func := "loop.example/pub-g03235/laws.FnDivWord", spec := "fnDivWord", inPlace := ["math/bits.Add64", "math/bits.Sub64"], apart := false }
def FnDivWordSaid : Prop := fnDivWordRow.holds Try.pinned (OpenSpec.ofChange fnDivWordSpec)

/-- ITS FALSE NEIGHBOUR: 'it returns false'. Refute it at one input. -/
def fnDivWordWrong : ChangeSpec := { name := "fnDivWord", fn := fun _ => fun
  | [d1, d2] => { results := [.lit (.bool false)], args := [d1, d2] }
  | _ => none }
def FnDivWordWrongFalsely : Prop := fnDivWordRow.holds Try.pinned (OpenSpec.ofChange fnDivWordWrong)

/-- 'laws.FnRatSign': WHATEVER THE INPUT: true; the input reads as it did. -/
def fnRatSignSpec : ChangeSpec := { name := "fnRatSign", fn := fun _ => fun
  | [d] => { results := [.lit (.bool true)], args := [d] }
  | _ => none }
def fnRatSignRow : OpenClaim := { program := "ytedmkbpfmddafaa", sum := "930fac782951d81f7795bbd8067c4e27c69b3a54d818fef2ff492671b912e52c", func := "loop.example/pub-g03235/laws.FnRatSign", spec := "fnRatSign", apart := false }
def FnRatSignSaid : Prop := fnRatSignRow.holds Try.pinned (OpenSpec.ofChange fnRatSignSpec)

/-- ITS FALSE NEIGHBOUR: 'it returns false'. Refute it at one input. -/
def fnRatSignWrong : ChangeSpec := { name := "fnRatSign", fn := fun _ => fun
  | [d] => { results := [.lit (.bool false)], args := [d] }
  | _ => none }
def FnRatSignWrongFalsely : Prop := fnRatSignRow.holds Try.pinned (OpenSpec.ofChange fnRatSignWrong)

/-- 'laws.FnRatAbs': WHATEVER THE INPUT: true; the input reads as it did. -/
def fnRatAbsSpec : ChangeSpec := { name := "fnRatAbs", fn := fun _ => fun
  | [d] => { results := [.lit (.bool true)], args := [d] }
  | _ => none }
def fnRatAbsRow : OpenClaim := { program := "ytedmkbpfmddafaa", sum := "930fac782951d81f7795bbd8067c4e27c69b3a54d818fef2ff492671b912e52c", func := "loop.example/pub-g03235/laws.FnRatAbs", spec := "fnRatAbs", apart := false }
def FnRatAbsSaid : Prop := fnRatAbsRow.holds Try.pinned (OpenSpec.ofChange fnRatAbsSpec)

/-- ITS FALSE NEIGHBOUR: 'it returns false'. Refute it at one input. -/
def fnRatAbsWrong : ChangeSpec := { name := "fnRatAbs", fn := fun _ => fun
  | [d] => { results := [.lit (.bool false)], args := [d] }
  | _ => none }
def FnRatAbsWrongFalsely : Prop := fnRatAbsRow.holds Try.pinned (OpenSpec.ofChange fnRatAbsWrong)

/-- 'laws.FnRatNeg': WHATEVER THE INPUT: true; the input reads as it did. -/
def fnRatNegSpec : ChangeSpec := { name := "fnRatNeg", fn := fun _ => fun
  | [d] => { results := [.lit (.bool true)], args := [d] }
  | _ => none }
def fnRatNegRow : OpenClaim := { program := "ytedmkbpfmddafaa", sum := "930fac782951d81f7795bbd8067c4e27c69b3a54d818fef2ff492671b912e52c", func := "loop.example/pub-g03235/laws.FnRatNeg", spec := "fnRatNeg", apart := false }
def FnRatNegSaid : Prop := fnRatNegRow.holds Try.pinned (OpenSpec.ofChange fnRatNegSpec)

/-- ITS FALSE NEIGHBOUR: 'it returns false'. Refute it at one input. -/
def fnRatNegWrong : ChangeSpec := { name := "fnRatNeg", fn := fun _ => fun
  | [d] => { results := [.lit (.bool false)], args := [d] }
  | _ => none }
def FnRatNegWrongFalsely : Prop := fnRatNegRow.holds Try.pinned (OpenSpec.ofChange fnRatNegWrong)

/-- 'laws.FnRatInv': WHATEVER THE INPUT: true; the input reads as it did. -/
def fnRatInvSpec : ChangeSpec := { name := "fnRatInv", fn := fun _ => fun
  | [d] => { results := [.lit (.bool true)], args := [d] }
  | _ => none }
def fnRatInvRow : OpenClaim := { program := "ytedmkbpfmddafaa", sum := "930fac782951d81f7795bbd8067c4e27c69b3a54d818fef2ff492671b912e52c", func := "loop.example/pub-g03235/laws.FnRatInv", spec := "fnRatInv", unfollowed := true, recurses := true, apart := false }
def FnRatInvSaid : Prop := fnRatInvRow.holds Try.pinned (OpenSpec.ofChange fnRatInvSpec)

/-- ITS FALSE NEIGHBOUR: 'it returns false'. Refute it at one input. -/
def fnRatInvWrong : ChangeSpec := { name := "fnRatInv", fn := fun _ => fun
  | [d] => { results := [.lit (.bool false)], args := [d] }
  | _ => none }
def FnRatInvWrongFalsely : Prop := fnRatInvRow.holds Try.pinned (OpenSpec.ofChange fnRatInvWrong)

/-- 'laws.FnRatKept': WHATEVER THE INPUT: true; the input reads as it did. -/
def fnRatKeptSpec : ChangeSpec := { name := "fnRatKept", fn := fun _ => fun
  | [d] => { results := [.lit (.bool true)], args := [d] }
  | _ => none }
def fnRatKeptRow : OpenClaim := { program := "ytedmkbpfmddafaa", sum := "930fac782951d81f7795bbd8067c4e27c69b3a54d818fef2ff492671b912e52c", func := "loop.example/pub-g03235/laws.FnRatKept", spec := "fnRatKept", apart := false }
def FnRatKeptSaid : Prop := fnRatKeptRow.holds Try.pinned (OpenSpec.ofChange fnRatKeptSpec)

/-- ITS FALSE NEIGHBOUR: 'it returns false'. Refute it at one input. -/
def fnRatKeptWrong : ChangeSpec := { name := "fnRatKept", fn := fun _ => fun
  | [d] => { results := [.lit (.bool false)], args := [d] }
  | _ => none }
def FnRatKeptWrongFalsely : Prop := fnRatKeptRow.holds Try.pinned (OpenSpec.ofChange fnRatKeptWrong)

/- THE SECOND FORM. 'bulk': how many values and letters a reading holds, each counted each time it is reached (what is shared counts as often as it is met; a slice's spare places count too). A statement '..UptoSaid' is the law's where the arguments, and the package variables that the reading takes, are together of bulk at most 1048576: NARROWER than '..Said'. Prove '..Said' where nothing that the law and all that it calls make is longer than what came in: it says more and counts as full. Else prove '..UptoSaid'. A law counts once. -/
mutual
def uptoBulk {H : Type} : DataW H → Nat
  | .lit (.string bytes) => bytes.length + 1
  | .lit _ => 1
  | .nil => 1
  | .ptr d => uptoBulk d + 1
  | .slice elems spare => uptoBulkAll elems + uptoBulkAll spare + 1
  | .agg parts => uptoBulkAll parts + 1
  | .iface _ d => uptoBulk d + 1
  | .map entries => uptoBulkEntries entries + 1
  | .held _ => 1
def uptoBulkAll {H : Type} : List (DataW H) → Nat
  | [] => 0
  | d :: r => uptoBulk d + uptoBulkAll r
def uptoBulkEntries {H : Type} : List (Lit × DataW H) → Nat
  | [] => 0
  | x :: r => uptoBulkEntry x + uptoBulkEntries r
def uptoBulkEntry {H : Type} : Lit × DataW H → Nat
  | (.string bytes, d) => bytes.length + uptoBulk d + 1
  | (_, d) => uptoBulk d + 1
 end
def uptoSmall : (H : Type) → List (DataW H) → Bool := fun _ ds => decide (uptoBulkAll ds ≤ 1048576)
def OpenSpec.upto (s : _root_.Go.ChangeSpec) : _root_.Go.OpenSpec := { _root_.Go.OpenSpec.ofChange s with cond := some uptoSmall }

/-- 'laws.FnDecimalString', WHERE WHAT IT READS IS OF BULK AT MOST 1048576: true; the input reads as it did. -/
def fnDecimalStringUptoRow : OpenClaim := { program := "ytedmkbpfmddafaa", sum := "930fac782951d81f7795bbd8067c4e27c69b3a54d818fef2ff492671b912e52c", func := "loop.example/pub-g03235/laws.FnDecimalString", spec := "fnDecimalString", apart := false, narrowed := true }
def FnDecimalStringUptoSaid : Prop := fnDecimalStringUptoRow.holds Try.pinned (OpenSpec.upto fnDecimalStringSpec)

/-- 'laws.FnDecimalShift', WHERE WHAT IT READS IS OF BULK AT MOST 1048576: true; the input reads as it did. -/
def fnDecimalShiftUptoRow : OpenClaim := { program := "ytedmkbpfmddafaa", sum := "930fac782951d81f7795bbd8067c4e27c69b3a54d818fef2ff492671b912e52c", func := "loop.example/pub-g03235/laws.FnDecimalShift", spec := "fnDecimalShift", apart := false, narrowed := true }
def FnDecimalShiftUptoSaid : Prop := fnDecimalShiftUptoRow.holds Try.pinned (OpenSpec.upto fnDecimalShiftSpec)

/-- 'laws.FnDecimalRound', WHERE WHAT IT READS IS OF BULK AT MOST 1048576: true; the input reads as it did. -/
def fnDecimalRoundUptoRow : OpenClaim := { program := "ytedmkbpfmddafaa", sum := "930fac782951d81f7795bbd8067c4e27c69b3a54d818fef2ff492671b912e52c", func := "loop.example/pub-g03235/laws.FnDecimalRound", spec := "fnDecimalRound", apart := false, narrowed := true }
def FnDecimalRoundUptoSaid : Prop := fnDecimalRoundUptoRow.holds Try.pinned (OpenSpec.upto fnDecimalRoundSpec)

/-- 'laws.FnDivWord', WHERE WHAT IT READS IS OF BULK AT MOST 1048576: true; the input reads as it did. -/
def fnDivWordUptoRow : OpenClaim := { program := "ytedmkbpfmddafaa", sum := "930fac782951d81f7795bbd8067c4e27c69b3a54d818fef2ff492671b912e52c", func := "loop.example/pub-g03235/laws.FnDivWord", spec := "fnDivWord", inPlace := ["math/bits.Add64", "math/bits.Sub64"], apart := false, narrowed := true }
def FnDivWordUptoSaid : Prop := fnDivWordUptoRow.holds Try.pinned (OpenSpec.upto fnDivWordSpec)

/-- 'laws.FnRatSign', WHERE WHAT IT READS IS OF BULK AT MOST 1048576: true; the input reads as it did. -/
def fnRatSignUptoRow : OpenClaim := { program := "ytedmkbpfmddafaa", sum := "930fac782951d81f7795bbd8067c4e27c69b3a54d818fef2ff492671b912e52c", func := "loop.example/pub-g03235/laws.FnRatSign", spec := "fnRatSign", apart := false, narrowed := true }
def FnRatSignUptoSaid : Prop := fnRatSignUptoRow.holds Try.pinned (OpenSpec.upto fnRatSignSpec)

/-- 'laws.FnRatAbs', WHERE WHAT IT READS IS OF BULK AT MOST 1048576: true; the input reads as it did. -/
def fnRatAbsUptoRow : OpenClaim := { program := "ytedmkbpfmddafaa", sum := "930fac782951d81f7795bbd8067c4e27c69b3a54d818fef2ff492671b912e52c", func := "loop.example/pub-g03235/laws.FnRatAbs", spec := "fnRatAbs", apart := false, narrowed := true }
def FnRatAbsUptoSaid : Prop := fnRatAbsUptoRow.holds Try.pinned (OpenSpec.upto fnRatAbsSpec)

/-- 'laws.FnRatNeg', WHERE WHAT IT READS IS OF BULK AT MOST 1048576: true; the input reads as it did. -/
def fnRatNegUptoRow : OpenClaim := { program := "ytedmkbpfmddafaa", sum := "930fac782951d81f7795bbd8067c4e27c69b3a54d818fef2ff492671b912e52c", func := "loop.example/pub-g03235/laws.FnRatNeg", spec := "fnRatNeg", apart := false, narrowed := true }
def FnRatNegUptoSaid : Prop := fnRatNegUptoRow.holds Try.pinned (OpenSpec.upto fnRatNegSpec)

/-- 'laws.FnRatInv', WHERE WHAT IT READS IS OF BULK AT MOST 1048576: true; the input reads as it did. -/
def fnRatInvUptoRow : OpenClaim := { program := "ytedmkbpfmddafaa", sum := "930fac782951d81f7795bbd8067c4e27c69b3a54d818fef2ff492671b912e52c", func := "loop.example/pub-g03235/laws.FnRatInv", spec := "fnRatInv", unfollowed := true, recurses := true, apart := false, narrowed := true }
def FnRatInvUptoSaid : Prop := fnRatInvUptoRow.holds Try.pinned (OpenSpec.upto fnRatInvSpec)

/-- 'laws.FnRatKept', WHERE WHAT IT READS IS OF BULK AT MOST 1048576: true; the input reads as it did. -/
def fnRatKeptUptoRow : OpenClaim := { program := "ytedmkbpfmddafaa", sum := "930fac782951d81f7795bbd8067c4e27c69b3a54d818fef2ff492671b912e52c", func := "loop.example/pub-g03235/laws.FnRatKept", spec := "fnRatKept", apart := false, narrowed := true }
def FnRatKeptUptoSaid : Prop := fnRatKeptUptoRow.holds Try.pinned (OpenSpec.upto fnRatKeptSpec)

end Rows
end Go.Proofs.Ytedmkbpfmddafaa
