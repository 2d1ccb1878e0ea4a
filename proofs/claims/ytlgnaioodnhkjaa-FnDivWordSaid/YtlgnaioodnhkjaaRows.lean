/-
  No cell of these rows narrows 'for every input' (looked for: loops, veiled, ifaces, maps, wideKeys, modest, calm, conditions, laid).
  DERIVED. THE GIVEN ROWS OF THIS SEAT. 9 by the template 'for every input the law returns true; each argument reads behind the call as it read before'; 0 by the template 'total and deterministic' (their statements: YtlgnaioodnhkjaaTotals.lean).
  GIVEN WITH THE SEED: the statements are not yours to turn. If you find one false, say at which input.
  Laid BY PROGRAM, IN A SANDBOX (cutbox-rows.mjs): the forced cells as the released guide's own fill.sh prints them over the translation d92b7813e226da12… (all of the seat's roots in one cut). By AI agents, Wed Nov 11 2026. No macro, syntax, notation, axiom, sorry.
-/
import Derived.Test.YtlgnaioodnhkjaaChecked
import GoSem.Claim
import GoSem.ClaimJoined
import GoSem.ClaimMapViews
import Derived.JoinedTies
import Derived.KernelRfl
namespace Go.Proofs.Ytlgnaioodnhkjaa
/- THE CELL 'sum', in the pinned program and in every row, IS THE sha256 OF THE DUMP (.gsa) THAT YtlgnaioodnhkjaaProg.lean LOADS. Nothing in Lean hashes anything: it is a label: what it is worth is what the hold of that sum in a sandbox is worth. -/
noncomputable def Try.pinned : Pinned := { name := "ytlgnaioodnhkjaa", sum := "d92b7813e226da12971f1b3c408c08ec74f58036545d5b5230c7243e4f903d47", checked := Try.checked }
namespace Rows
def none {H : Type} : Left H := { results := [], args := [] }

/-- 'laws.FnCmpBits': WHATEVER THE INPUT: true; the input reads as it did. -/
def fnCmpBitsSpec : ChangeSpec := { name := "fnCmpBits", fn := fun _ => fun
  | [d1, d2] => { results := [.lit (.bool true)], args := [d1, d2] }
  | _ => none }
def fnCmpBitsRow : OpenClaim := { program := "ytlgnaioodnhkjaa", sum := "d92b7813e226da12971f1b3c408c08ec74f58036545d5b5230c7243e4f903d47", func := "loop.example/pub-g03235/laws.FnCmpBits", spec := "fnCmpBits", inPlace := ["math.Float64frombits", "math.Float64bits", "math/bits.Add64"], apart := false }
def FnCmpBitsSaid : Prop := fnCmpBitsRow.holds Try.pinned (OpenSpec.ofChange fnCmpBitsSpec)

/-- ITS FALSE NEIGHBOUR: 'it returns false'. Refute it at one input. -/
def fnCmpBitsWrong : ChangeSpec := { name := "fnCmpBits", fn := fun _ => fun
  | [d1, d2] => { results := [.lit (.bool false)], args := [d1, d2] }
  | _ => none }
def FnCmpBitsWrongFalsely : Prop := fnCmpBitsRow.holds Try.pinned (OpenSpec.ofChange fnCmpBitsWrong)

/-- 'laws.FnBitsOfInt': WHATEVER THE INPUT: true; the input reads as it did. -/
def fnBitsOfIntSpec : ChangeSpec := { name := "fnBitsOfInt", fn := fun _ => fun
  | [d] => { results := [.lit (.bool true)], args := [d] }
  | _ => none }
def fnBitsOfIntRow : OpenClaim := { program := "ytlgnaioodnhkjaa", sum := "d92b7813e226da12971f1b3c408c08ec74f58036545d5b5230c7243e4f903d47", func := "loop.example/pub-g03235/laws.FnBitsOfInt", spec := "fnBitsOfInt", inPlace := ["math/bits.Add64", "math.Float64frombits", "math.Float64bits"], apart := false }
def FnBitsOfIntSaid : Prop := fnBitsOfIntRow.holds Try.pinned (OpenSpec.ofChange fnBitsOfIntSpec)

/-- ITS FALSE NEIGHBOUR: 'it returns false'. Refute it at one input. -/
def fnBitsOfIntWrong : ChangeSpec := { name := "fnBitsOfInt", fn := fun _ => fun
  | [d] => { results := [.lit (.bool false)], args := [d] }
  | _ => none }
def FnBitsOfIntWrongFalsely : Prop := fnBitsOfIntRow.holds Try.pinned (OpenSpec.ofChange fnBitsOfIntWrong)

/-- 'laws.FnPartsOfBits': WHATEVER THE INPUT: true; the input reads as it did. -/
def fnPartsOfBitsSpec : ChangeSpec := { name := "fnPartsOfBits", fn := fun _ => fun
  | [d] => { results := [.lit (.bool true)], args := [d] }
  | _ => none }
def fnPartsOfBitsRow : OpenClaim := { program := "ytlgnaioodnhkjaa", sum := "d92b7813e226da12971f1b3c408c08ec74f58036545d5b5230c7243e4f903d47", func := "loop.example/pub-g03235/laws.FnPartsOfBits", spec := "fnPartsOfBits", inPlace := ["math.Float64frombits", "math.Float64bits", "math/bits.Add64"], apart := false }
def FnPartsOfBitsSaid : Prop := fnPartsOfBitsRow.holds Try.pinned (OpenSpec.ofChange fnPartsOfBitsSpec)

/-- ITS FALSE NEIGHBOUR: 'it returns false'. Refute it at one input. -/
def fnPartsOfBitsWrong : ChangeSpec := { name := "fnPartsOfBits", fn := fun _ => fun
  | [d] => { results := [.lit (.bool false)], args := [d] }
  | _ => none }
def FnPartsOfBitsWrongFalsely : Prop := fnPartsOfBitsRow.holds Try.pinned (OpenSpec.ofChange fnPartsOfBitsWrong)

/-- 'laws.FnRoundBits': WHATEVER THE INPUT: true; the input reads as it did. -/
def fnRoundBitsSpec : ChangeSpec := { name := "fnRoundBits", fn := fun _ => fun
  | [d1, d2, d3] => { results := [.lit (.bool true)], args := [d1, d2, d3] }
  | _ => none }
def fnRoundBitsRow : OpenClaim := { program := "ytlgnaioodnhkjaa", sum := "d92b7813e226da12971f1b3c408c08ec74f58036545d5b5230c7243e4f903d47", func := "loop.example/pub-g03235/laws.FnRoundBits", spec := "fnRoundBits", inPlace := ["math/bits.Add64", "math.Float64frombits", "math.Float64bits"], apart := false }
def FnRoundBitsSaid : Prop := fnRoundBitsRow.holds Try.pinned (OpenSpec.ofChange fnRoundBitsSpec)

/-- ITS FALSE NEIGHBOUR: 'it returns false'. Refute it at one input. -/
def fnRoundBitsWrong : ChangeSpec := { name := "fnRoundBits", fn := fun _ => fun
  | [d1, d2, d3] => { results := [.lit (.bool false)], args := [d1, d2, d3] }
  | _ => none }
def FnRoundBitsWrongFalsely : Prop := fnRoundBitsRow.holds Try.pinned (OpenSpec.ofChange fnRoundBitsWrong)

/-- 'laws.FnScaleBits': WHATEVER THE INPUT: true; the input reads as it did. -/
def fnScaleBitsSpec : ChangeSpec := { name := "fnScaleBits", fn := fun _ => fun
  | [d1, d2] => { results := [.lit (.bool true)], args := [d1, d2] }
  | _ => none }
def fnScaleBitsRow : OpenClaim := { program := "ytlgnaioodnhkjaa", sum := "d92b7813e226da12971f1b3c408c08ec74f58036545d5b5230c7243e4f903d47", func := "loop.example/pub-g03235/laws.FnScaleBits", spec := "fnScaleBits", inPlace := ["math.Float64frombits", "math.Float64bits", "math/bits.Add64"], apart := false }
def FnScaleBitsSaid : Prop := fnScaleBitsRow.holds Try.pinned (OpenSpec.ofChange fnScaleBitsSpec)

/-- ITS FALSE NEIGHBOUR: 'it returns false'. Refute it at one input. -/
def fnScaleBitsWrong : ChangeSpec := { name := "fnScaleBits", fn := fun _ => fun
  | [d1, d2] => { results := [.lit (.bool false)], args := [d1, d2] }
  | _ => none }
def FnScaleBitsWrongFalsely : Prop := fnScaleBitsRow.holds Try.pinned (OpenSpec.ofChange fnScaleBitsWrong)

/-- 'laws.FnFloat32': WHATEVER THE INPUT: true; the input reads as it did. -/
def fnFloat32Spec : ChangeSpec := { name := "fnFloat32", fn := fun _ => fun
  | [d] => { results := [.lit (.bool true)], args := [d] }
  | _ => none }
def fnFloat32Row : OpenClaim := { program := "ytlgnaioodnhkjaa", sum := "d92b7813e226da12971f1b3c408c08ec74f58036545d5b5230c7243e4f903d47", func := "loop.example/pub-g03235/laws.FnFloat32", spec := "fnFloat32", inPlace := ["math/bits.Add64", "math.Float64frombits", "math.Float32frombits", "math.Float32bits"], apart := false }
def FnFloat32Said : Prop := fnFloat32Row.holds Try.pinned (OpenSpec.ofChange fnFloat32Spec)

/-- ITS FALSE NEIGHBOUR: 'it returns false'. Refute it at one input. -/
def fnFloat32Wrong : ChangeSpec := { name := "fnFloat32", fn := fun _ => fun
  | [d] => { results := [.lit (.bool false)], args := [d] }
  | _ => none }
def FnFloat32WrongFalsely : Prop := fnFloat32Row.holds Try.pinned (OpenSpec.ofChange fnFloat32Wrong)

/-- 'laws.FnFloat64': WHATEVER THE INPUT: true; the input reads as it did. -/
def fnFloat64Spec : ChangeSpec := { name := "fnFloat64", fn := fun _ => fun
  | [d] => { results := [.lit (.bool true)], args := [d] }
  | _ => none }
def fnFloat64Row : OpenClaim := { program := "ytlgnaioodnhkjaa", sum := "d92b7813e226da12971f1b3c408c08ec74f58036545d5b5230c7243e4f903d47", func := "loop.example/pub-g03235/laws.FnFloat64", spec := "fnFloat64", inPlace := ["math/bits.Add64", "math.Float64frombits", "math.Float64bits"], apart := false }
def FnFloat64Said : Prop := fnFloat64Row.holds Try.pinned (OpenSpec.ofChange fnFloat64Spec)

/-- ITS FALSE NEIGHBOUR: 'it returns false'. Refute it at one input. -/
def fnFloat64Wrong : ChangeSpec := { name := "fnFloat64", fn := fun _ => fun
  | [d] => { results := [.lit (.bool false)], args := [d] }
  | _ => none }
def FnFloat64WrongFalsely : Prop := fnFloat64Row.holds Try.pinned (OpenSpec.ofChange fnFloat64Wrong)

/-- 'laws.FnDivWord': WHATEVER THE INPUT: true; the input reads as it did. -/
def fnDivWordSpec : ChangeSpec := { name := "fnDivWord", fn := fun _ => fun
  | [d1, d2] => { results := [.lit (.bool true)], args := [d1, d2] }
  | _ => none }
def fnDivWordRow : OpenClaim := { program := "ytlgnaioodnhkjaa", sum := "d92b7813e226da12971f1b3c408c08ec74f58036545d5b5230c7243e4f903d47", func := "loop.example/pub-g03235/laws.FnDivWord", spec := "fnDivWord", inPlace := ["math/bits.Add64", "math/bits.Sub64"], apart := false }
def FnDivWordSaid : Prop := fnDivWordRow.holds Try.pinned (OpenSpec.ofChange fnDivWordSpec)

/-- ITS FALSE NEIGHBOUR: 'it returns false'. Refute it at one input. -/
def fnDivWordWrong : ChangeSpec := { name := "fnDivWord", fn := fun _ => fun
  | [d1, d2] => { results := [.lit (.bool false)], args := [d1, d2] }
  | _ => none }
def FnDivWordWrongFalsely : Prop := fnDivWordRow.holds Try.pinned (OpenSpec.ofChange fnDivWordWrong)

/-- 'laws.FnRatKept': WHATEVER THE INPUT: true; the input reads as it did. -/
def fnRatKeptSpec : ChangeSpec := { name := "fnRatKept", fn := fun _ => fun
  | [d] => { results := [.lit (.bool true)], args := [d] }
  | _ => none }
def fnRatKeptRow : OpenClaim := { program := "ytlgnaioodnhkjaa", sum := "d92b7813e226da12971f1b3c408c08ec74f58036545d5b5230c7243e4f903d47", func := "loop.example/pub-g03235/laws.FnRatKept", spec := "fnRatKept", apart := false }
def FnRatKeptSaid : Prop := fnRatKeptRow.holds Try.pinned (OpenSpec.ofChange fnRatKeptSpec)

/-- ITS FALSE NEIGHBOUR: 'it returns false'. Refute it at one input. -/
def fnRatKeptWrong : ChangeSpec := { name := "fnRatKept", fn := fun _ => fun
  | [d] => { results := [.lit (.bool false)], args := [d] }
  | _ => none }
def FnRatKeptWrongFalsely : Prop := fnRatKeptRow.holds Try.pinned (OpenSpec.ofChange fnRatKeptWrong)

/- THE SECOND FORM. 'bulk': how many values and letters a reading holds, each counted each time it is reached (what is shared counts as often as it is met; a slice's spare places count too). A statement '..UptoSaid' is the law's where the arguments, and the package variables that the reading takes, are together of bulk at most 1048576: NARROWER than '..Said'. Prove '..Said' where nothing that the law and all that it calls make is longer than what came in: it says more and counts as full. Else prove '..UptoSaid'. A law counts once. -/
mutual
def uptoBulk {H : Type} : DataW H → Nat
  | .lit (.string bytes) => bytes.length + 1
  | .lit _ => 1
  | .nil => 1
  | .ptr d => uptoBulk d + 1
  | .slice elems spare => uptoBulkAll elems + uptoBulkAll spare + 1
  | .agg parts => uptoBulkAll parts + 1
  | .iface _ d => uptoBulk d + 1
  | .map entries => uptoBulkEntries entries + 1
  | .held _ => 1
def uptoBulkAll {H : Type} : List (DataW H) → Nat
  | [] => 0
  | d :: r => uptoBulk d + uptoBulkAll r
def uptoBulkEntries {H : Type} : List (Lit × DataW H) → Nat
  | [] => 0
  | x :: r => uptoBulkEntry x + uptoBulkEntries r
def uptoBulkEntry {H : Type} : Lit × DataW H → Nat
  | (.string bytes, d) => bytes.length + uptoBulk d + 1
  | (_, d) => uptoBulk d + 1
 end
def uptoSmall : (H : Type) → List (DataW H) → Bool := fun _ ds => decide (uptoBulkAll ds ≤ 1048576)
def OpenSpec.upto (s : _root_.Go.ChangeSpec) : _root_.Go.OpenSpec := { _root_.Go.OpenSpec.ofChange s with cond := some uptoSmall }

/-- 'laws.FnCmpBits', WHERE WHAT IT READS IS OF BULK AT MOST 1048576: true; the input reads as it did. -/
def fnCmpBitsUptoRow : OpenClaim := { program := "ytlgnaioodnhkjaa", sum := "d92b7813e226da12971f1b3c408c08ec74f58036545d5b5230c7243e4f903d47", func := "loop.example/pub-g03235/laws.FnCmpBits", spec := "fnCmpBits", inPlace := ["math.Float64frombits", "math.Float64bits", "math/bits.Add64"], apart := false, narrowed := true }
def FnCmpBitsUptoSaid : Prop := fnCmpBitsUptoRow.holds Try.pinned (OpenSpec.upto fnCmpBitsSpec)

/-- 'laws.FnBitsOfInt', WHERE WHAT IT READS IS OF BULK AT MOST 1048576: true; the input reads as it did. -/
def fnBitsOfIntUptoRow : OpenClaim := { program := "ytlgnaioodnhkjaa", sum := "d92b7813e226da12971f1b3c408c08ec74f58036545d5b5230c7243e4f903d47", func := "loop.example/pub-g03235/laws.FnBitsOfInt", spec := "fnBitsOfInt", inPlace := ["math/bits.Add64", "math.Float64frombits", "math.Float64bits"], apart := false, narrowed := true }
def FnBitsOfIntUptoSaid : Prop := fnBitsOfIntUptoRow.holds Try.pinned (OpenSpec.upto fnBitsOfIntSpec)

/-- 'laws.FnPartsOfBits', WHERE WHAT IT READS IS OF BULK AT MOST 1048576: true; the input reads as it did. -/
def fnPartsOfBitsUptoRow : OpenClaim := { program := "ytlgnaioodnhkjaa", sum := "d92b7813e226da12971f1b3c408c08ec74f58036545d5b5230c7243e4f903d47", func := "loop.example/pub-g03235/laws.FnPartsOfBits", spec := "fnPartsOfBits", inPlace := ["math.Float64frombits", "math.Float64bits", "math/bits.Add64"], apart := false, narrowed := true }
def FnPartsOfBitsUptoSaid : Prop := fnPartsOfBitsUptoRow.holds Try.pinned (OpenSpec.upto fnPartsOfBitsSpec)

/-- 'laws.FnRoundBits', WHERE WHAT IT READS IS OF BULK AT MOST 1048576: true; the input reads as it did. -/
def fnRoundBitsUptoRow : OpenClaim := { program := "ytlgnaioodnhkjaa", sum := "d92b7813e226da12971f1b3c408c08ec74f58036545d5b5230c7243e4f903d47", func := "loop.example/pub-g03235/laws.FnRoundBits", spec := "fnRoundBits", inPlace := ["math/bits.Add64", "math.Float64frombits", "math.Float64bits"], apart := false, narrowed := true }
def FnRoundBitsUptoSaid : Prop := fnRoundBitsUptoRow.holds Try.pinned (OpenSpec.upto fnRoundBitsSpec)

/-- 'laws.FnScaleBits', WHERE WHAT IT READS IS OF BULK AT MOST 1048576: true; the input reads as it did. -/
def fnScaleBitsUptoRow : OpenClaim := { program := "ytlgnaioodnhkjaa", sum := "d92b7813e226da12971f1b3c408c08ec74f58036545d5b5230c7243e4f903d47", func := "loop.example/pub-g03235/laws.FnScaleBits", spec := "fnScaleBits", inPlace := ["math.Float64frombits", "math.Float64bits", "math/bits.Add64"], apart := false, narrowed := true }
def FnScaleBitsUptoSaid : Prop := fnScaleBitsUptoRow.holds Try.pinned (OpenSpec.upto fnScaleBitsSpec)

/-- 'laws.FnFloat32', WHERE WHAT IT READS IS OF BULK AT MOST 1048576: true; the input reads as it did. -/
def fnFloat32UptoRow : OpenClaim := { program := "ytlgnaioodnhkjaa", sum := "d92b7813e226da12971f1b3c408c08ec74f58036545d5b5230c7243e4f903d47", func := "loop.example/pub-g03235/laws.FnFloat32", spec := "fnFloat32", inPlace := ["math/bits.Add64", "math.Float64frombits", "math.Float32frombits", "math.Float32bits"], apart := false, narrowed := true }
def FnFloat32UptoSaid : Prop := fnFloat32UptoRow.holds Try.pinned (OpenSpec.upto fnFloat32Spec)

/-- 'laws.FnFloat64', WHERE WHAT IT READS IS OF BULK AT MOST 1048576: true; the input reads as it did. -/
def fnFloat64UptoRow : OpenClaim := { program := "ytlgnaioodnhkjaa", sum := "d92b7813e226da12971f1b3c408c08ec74f58036545d5b5230c7243e4f903d47", func := "loop.example/pub-g03235/laws.FnFloat64", spec := "fnFloat64", inPlace := ["math/bits.Add64", "math.Float64frombits", "math.Float64bits"], apart := false, narrowed := true }
def FnFloat64UptoSaid : Prop := fnFloat64UptoRow.holds Try.pinned (OpenSpec.upto fnFloat64Spec)

/-- 'laws.FnDivWord', WHERE WHAT IT READS IS OF BULK AT MOST 1048576: true; the input reads as it did. -/
def fnDivWordUptoRow : OpenClaim := { program := "ytlgnaioodnhkjaa", sum := "d92b7813e226da12971f1b3c408c08ec74f58036545d5b5230c7243e4f903d47", func := "loop.example/pub-g03235/laws.FnDivWord", spec := "fnDivWord", inPlace := ["math/bits.Add64", "math/bits.Sub64"], apart := false, narrowed := true }
def FnDivWordUptoSaid : Prop := fnDivWordUptoRow.holds Try.pinned (OpenSpec.upto fnDivWordSpec)

/-- 'laws.FnRatKept', WHERE WHAT IT READS IS OF BULK AT MOST 1048576: true; the input reads as it did. -/
def fnRatKeptUptoRow : OpenClaim := { program := "ytlgnaioodnhkjaa", sum := "d92b7813e226da12971f1b3c408c08ec74f58036545d5b5230c7243e4f903d47", func := "loop.example/pub-g03235/laws.FnRatKept", spec := "fnRatKept", apart := false, narrowed := true }
def FnRatKeptUptoSaid : Prop := fnRatKeptUptoRow.holds Try.pinned (OpenSpec.upto fnRatKeptSpec)

end Rows
end Go.Proofs.Ytlgnaioodnhkjaa
