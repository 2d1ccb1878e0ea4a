/-
  NARROWER THAN 'FOR EVERY INPUT', by the rows' own cells (each row's printed sentence says how): FnSet: laid · FnSetPrec: laid · FnSetPrecZero: laid · FnSetMantExp: laid · FnMantExp: laid · FnNeg: laid · FnAbs: laid · FnTwice: laid · FnMantBack: laid · FnMinPrec: laid · FnIsInt: laid · FnInt: laid.
  DERIVED. THE GIVEN ROWS OF THIS SEAT. 12 by the template 'for every input the law returns true; each argument reads behind the call as it read before'; 0 by the template 'total and deterministic' (their statements: YtjgkmnmemjebbaaDoorTotals.lean).
  GIVEN WITH THE SEED: the statements are not yours to turn. If you find one false, say at which input.
  Laid BY PROGRAM, IN A SANDBOX (cutbox-rows.mjs): the forced cells as the released guide's own fill.sh prints them over the translation 4c770e1e23516ac5… (all of the seat's roots in one cut). By AI agents, Wed Nov 11 2026. No macro, syntax, notation, axiom, sorry.
-/
import Derived.Test.YtjgkmnmemjebbaaDoorChecked
import GoSem.Claim
import GoSem.ClaimJoined
import GoSem.ClaimMapViews
import Derived.JoinedTies
import Derived.KernelRfl
namespace Go.Proofs.YtjgkmnmemjebbaaDoor
/- THE CELL 'sum', in the pinned program and in every row, IS THE sha256 OF THE DUMP (.gsa) THAT YtjgkmnmemjebbaaDoorProg.lean LOADS. Nothing in Lean hashes anything: it is a label: what it is worth is what the hold of that sum in a sandbox is worth. -/
noncomputable def Tryd.pinned : Pinned := { name := "ytjgkmnmemjebbaadoor", sum := "4c770e1e23516ac5235e6fc40a7bee3cbd587ad09456efb54eaa2b4a7ecb0242", checked := Tryd.checked }
namespace Rows
def none {H : Type} : Left H := { results := [], args := [] }

/- WHAT THE LISTED PACKAGE-LEVEL VARIABLES READ AS WHEN THE CALL BEGINS. Each datum BY PROGRAM (the guide's laid-datum.mjs) off the statement by which the dump's own 'gosem.cut.vars' lays the variable. In a bare row this is a premise. The card (YtjgkmnmemjebbaaDoorCards.lean) ties it to the program's text. -/
def laid_math_bits_deBruijn32tab {H : Type} : DataW H := .agg [.lit (.int .u8 0), .lit (.int .u8 1), .lit (.int .u8 28), .lit (.int .u8 2), .lit (.int .u8 29), .lit (.int .u8 14), .lit (.int .u8 24), .lit (.int .u8 3), .lit (.int .u8 30), .lit (.int .u8 22), .lit (.int .u8 20), .lit (.int .u8 15), .lit (.int .u8 25), .lit (.int .u8 17), .lit (.int .u8 4), .lit (.int .u8 8), .lit (.int .u8 31), .lit (.int .u8 27), .lit (.int .u8 13), .lit (.int .u8 23), .lit (.int .u8 21), .lit (.int .u8 19), .lit (.int .u8 16), .lit (.int .u8 7), .lit (.int .u8 26), .lit (.int .u8 12), .lit (.int .u8 18), .lit (.int .u8 6), .lit (.int .u8 11), .lit (.int .u8 5), .lit (.int .u8 10), .lit (.int .u8 9)]
def laid_math_bits_deBruijn64tab {H : Type} : DataW H := .agg [.lit (.int .u8 0), .lit (.int .u8 1), .lit (.int .u8 56), .lit (.int .u8 2), .lit (.int .u8 57), .lit (.int .u8 49), .lit (.int .u8 28), .lit (.int .u8 3), .lit (.int .u8 61), .lit (.int .u8 58), .lit (.int .u8 42), .lit (.int .u8 50), .lit (.int .u8 38), .lit (.int .u8 29), .lit (.int .u8 17), .lit (.int .u8 4), .lit (.int .u8 62), .lit (.int .u8 47), .lit (.int .u8 59), .lit (.int .u8 36), .lit (.int .u8 45), .lit (.int .u8 43), .lit (.int .u8 51), .lit (.int .u8 22), .lit (.int .u8 53), .lit (.int .u8 39), .lit (.int .u8 33), .lit (.int .u8 30), .lit (.int .u8 24), .lit (.int .u8 18), .lit (.int .u8 12), .lit (.int .u8 5), .lit (.int .u8 63), .lit (.int .u8 55), .lit (.int .u8 48), .lit (.int .u8 27), .lit (.int .u8 60), .lit (.int .u8 41), .lit (.int .u8 37), .lit (.int .u8 16), .lit (.int .u8 46), .lit (.int .u8 35), .lit (.int .u8 44), .lit (.int .u8 21), .lit (.int .u8 52), .lit (.int .u8 32), .lit (.int .u8 23), .lit (.int .u8 11), .lit (.int .u8 54), .lit (.int .u8 26), .lit (.int .u8 40), .lit (.int .u8 15), .lit (.int .u8 34), .lit (.int .u8 20), .lit (.int .u8 31), .lit (.int .u8 10), .lit (.int .u8 25), .lit (.int .u8 14), .lit (.int .u8 19), .lit (.int .u8 9), .lit (.int .u8 13), .lit (.int .u8 8), .lit (.int .u8 7), .lit (.int .u8 6)]

/-- 'laws.FnSet': WHATEVER THE INPUT: true; the input reads as it did. -/
def fnSetSpec : ChangeSpec := { name := "fnSet", fn := fun _ => fun
  | [d1, d2, d3] => { results := [.lit (.bool true)], args := [d1, d2, d3] }
  | _ => none }
def fnSetRow : OpenClaim := { program := "ytjgkmnmemjebbaadoor", sum := "4c770e1e23516ac5235e6fc40a7bee3cbd587ad09456efb54eaa2b4a7ecb0242", func := "loop.example/pub-g03235/laws.FnSet", spec := "fnSet", inPlace := ["math/bits.Add64"], named := ["math/bits.deBruijn32tab", "math/bits.deBruijn64tab"], apart := false, laid := [("math/bits.deBruijn32tab", laid_math_bits_deBruijn32tab), ("math/bits.deBruijn64tab", laid_math_bits_deBruijn64tab)] }
def FnSetSaid : Prop := fnSetRow.holds Tryd.pinned (OpenSpec.ofChange fnSetSpec)

/-- ITS FALSE NEIGHBOUR: 'it returns false'. Refute it at one input. -/
def fnSetWrong : ChangeSpec := { name := "fnSet", fn := fun _ => fun
  | [d1, d2, d3] => { results := [.lit (.bool false)], args := [d1, d2, d3] }
  | _ => none }
def FnSetWrongFalsely : Prop := fnSetRow.holds Tryd.pinned (OpenSpec.ofChange fnSetWrong)

/-- 'laws.FnSetPrec': WHATEVER THE INPUT: true; the input reads as it did. -/
def fnSetPrecSpec : ChangeSpec := { name := "fnSetPrec", fn := fun _ => fun
  | [d1, d2] => { results := [.lit (.bool true)], args := [d1, d2] }
  | _ => none }
def fnSetPrecRow : OpenClaim := { program := "ytjgkmnmemjebbaadoor", sum := "4c770e1e23516ac5235e6fc40a7bee3cbd587ad09456efb54eaa2b4a7ecb0242", func := "loop.example/pub-g03235/laws.FnSetPrec", spec := "fnSetPrec", inPlace := ["math/bits.Add64"], named := ["math/bits.deBruijn32tab", "math/bits.deBruijn64tab"], apart := false, laid := [("math/bits.deBruijn32tab", laid_math_bits_deBruijn32tab), ("math/bits.deBruijn64tab", laid_math_bits_deBruijn64tab)] }
def FnSetPrecSaid : Prop := fnSetPrecRow.holds Tryd.pinned (OpenSpec.ofChange fnSetPrecSpec)

/-- ITS FALSE NEIGHBOUR: 'it returns false'. Refute it at one input. -/
def fnSetPrecWrong : ChangeSpec := { name := "fnSetPrec", fn := fun _ => fun
  | [d1, d2] => { results := [.lit (.bool false)], args := [d1, d2] }
  | _ => none }
def FnSetPrecWrongFalsely : Prop := fnSetPrecRow.holds Tryd.pinned (OpenSpec.ofChange fnSetPrecWrong)

/-- 'laws.FnSetPrecZero': WHATEVER THE INPUT: true; the input reads as it did. -/
def fnSetPrecZeroSpec : ChangeSpec := { name := "fnSetPrecZero", fn := fun _ => fun
  | [d] => { results := [.lit (.bool true)], args := [d] }
  | _ => none }
def fnSetPrecZeroRow : OpenClaim := { program := "ytjgkmnmemjebbaadoor", sum := "4c770e1e23516ac5235e6fc40a7bee3cbd587ad09456efb54eaa2b4a7ecb0242", func := "loop.example/pub-g03235/laws.FnSetPrecZero", spec := "fnSetPrecZero", inPlace := ["math/bits.Add64"], named := ["math/bits.deBruijn32tab", "math/bits.deBruijn64tab"], apart := false, laid := [("math/bits.deBruijn32tab", laid_math_bits_deBruijn32tab), ("math/bits.deBruijn64tab", laid_math_bits_deBruijn64tab)] }
def FnSetPrecZeroSaid : Prop := fnSetPrecZeroRow.holds Tryd.pinned (OpenSpec.ofChange fnSetPrecZeroSpec)

/-- ITS FALSE NEIGHBOUR: 'it returns false'. Refute it at one input. -/
def fnSetPrecZeroWrong : ChangeSpec := { name := "fnSetPrecZero", fn := fun _ => fun
  | [d] => { results := [.lit (.bool false)], args := [d] }
  | _ => none }
def FnSetPrecZeroWrongFalsely : Prop := fnSetPrecZeroRow.holds Tryd.pinned (OpenSpec.ofChange fnSetPrecZeroWrong)

/-- 'laws.FnSetMantExp': WHATEVER THE INPUT: true; the input reads as it did. -/
def fnSetMantExpSpec : ChangeSpec := { name := "fnSetMantExp", fn := fun _ => fun
  | [d1, d2] => { results := [.lit (.bool true)], args := [d1, d2] }
  | _ => none }
def fnSetMantExpRow : OpenClaim := { program := "ytjgkmnmemjebbaadoor", sum := "4c770e1e23516ac5235e6fc40a7bee3cbd587ad09456efb54eaa2b4a7ecb0242", func := "loop.example/pub-g03235/laws.FnSetMantExp", spec := "fnSetMantExp", inPlace := ["math/bits.Add64"], named := ["math/bits.deBruijn32tab", "math/bits.deBruijn64tab"], apart := false, laid := [("math/bits.deBruijn32tab", laid_math_bits_deBruijn32tab), ("math/bits.deBruijn64tab", laid_math_bits_deBruijn64tab)] }
def FnSetMantExpSaid : Prop := fnSetMantExpRow.holds Tryd.pinned (OpenSpec.ofChange fnSetMantExpSpec)

/-- ITS FALSE NEIGHBOUR: 'it returns false'. Refute it at one input. -/
def fnSetMantExpWrong : ChangeSpec := { name := "fnSetMantExp", fn := fun _ => fun
  | [d1, d2] => { results := [.lit (.bool false)], args := [d1, d2] }
  | _ => none }
def FnSetMantExpWrongFalsely : Prop := fnSetMantExpRow.holds Tryd.pinned (OpenSpec.ofChange fnSetMantExpWrong)

/-- 'laws.FnMantExp': WHATEVER THE INPUT: true; the input reads as it did. -/
def fnMantExpSpec : ChangeSpec := { name := "fnMantExp", fn := fun _ => fun
  | [d] => { results := [.lit (.bool true)], args := [d] }
  | _ => none }
def fnMantExpRow : OpenClaim := { program := "ytjgkmnmemjebbaadoor", sum := "4c770e1e23516ac5235e6fc40a7bee3cbd587ad09456efb54eaa2b4a7ecb0242", func := "loop.example/pub-g03235/laws.FnMantExp", spec := "fnMantExp", inPlace := ["math/bits.Add64"], named := ["math/bits.deBruijn32tab", "math/bits.deBruijn64tab"], apart := false, laid := [("math/bits.deBruijn32tab", laid_math_bits_deBruijn32tab), ("math/bits.deBruijn64tab", laid_math_bits_deBruijn64tab)] }
def FnMantExpSaid : Prop := fnMantExpRow.holds Tryd.pinned (OpenSpec.ofChange fnMantExpSpec)

/-- ITS FALSE NEIGHBOUR: 'it returns false'. Refute it at one input. -/
def fnMantExpWrong : ChangeSpec := { name := "fnMantExp", fn := fun _ => fun
  | [d] => { results := [.lit (.bool false)], args := [d] }
  | _ => none }
def FnMantExpWrongFalsely : Prop := fnMantExpRow.holds Tryd.pinned (OpenSpec.ofChange fnMantExpWrong)

/-- 'laws.FnNeg': WHATEVER THE INPUT: true; the input reads as it did. -/
def fnNegSpec : ChangeSpec := { name := "fnNeg", fn := fun _ => fun
  | [d1, d2, d3] => { results := [.lit (.bool true)], args := [d1, d2, d3] }
  | _ => none }
def fnNegRow : OpenClaim := { program := "ytjgkmnmemjebbaadoor", sum := "4c770e1e23516ac5235e6fc40a7bee3cbd587ad09456efb54eaa2b4a7ecb0242", func := "loop.example/pub-g03235/laws.FnNeg", spec := "fnNeg", inPlace := ["math/bits.Add64"], named := ["math/bits.deBruijn32tab", "math/bits.deBruijn64tab"], apart := false, laid := [("math/bits.deBruijn32tab", laid_math_bits_deBruijn32tab), ("math/bits.deBruijn64tab", laid_math_bits_deBruijn64tab)] }
def FnNegSaid : Prop := fnNegRow.holds Tryd.pinned (OpenSpec.ofChange fnNegSpec)

/-- ITS FALSE NEIGHBOUR: 'it returns false'. Refute it at one input. -/
def fnNegWrong : ChangeSpec := { name := "fnNeg", fn := fun _ => fun
  | [d1, d2, d3] => { results := [.lit (.bool false)], args := [d1, d2, d3] }
  | _ => none }
def FnNegWrongFalsely : Prop := fnNegRow.holds Tryd.pinned (OpenSpec.ofChange fnNegWrong)

/-- 'laws.FnAbs': WHATEVER THE INPUT: true; the input reads as it did. -/
def fnAbsSpec : ChangeSpec := { name := "fnAbs", fn := fun _ => fun
  | [d1, d2, d3] => { results := [.lit (.bool true)], args := [d1, d2, d3] }
  | _ => none }
def fnAbsRow : OpenClaim := { program := "ytjgkmnmemjebbaadoor", sum := "4c770e1e23516ac5235e6fc40a7bee3cbd587ad09456efb54eaa2b4a7ecb0242", func := "loop.example/pub-g03235/laws.FnAbs", spec := "fnAbs", inPlace := ["math/bits.Add64"], named := ["math/bits.deBruijn32tab", "math/bits.deBruijn64tab"], apart := false, laid := [("math/bits.deBruijn32tab", laid_math_bits_deBruijn32tab), ("math/bits.deBruijn64tab", laid_math_bits_deBruijn64tab)] }
def FnAbsSaid : Prop := fnAbsRow.holds Tryd.pinned (OpenSpec.ofChange fnAbsSpec)

/-- ITS FALSE NEIGHBOUR: 'it returns false'. Refute it at one input. -/
def fnAbsWrong : ChangeSpec := { name := "fnAbs", fn := fun _ => fun
  | [d1, d2, d3] => { results := [.lit (.bool false)], args := [d1, d2, d3] }
  | _ => none }
def FnAbsWrongFalsely : Prop := fnAbsRow.holds Tryd.pinned (OpenSpec.ofChange fnAbsWrong)

/-- 'laws.FnTwice': WHATEVER THE INPUT: true; the input reads as it did. -/
def fnTwiceSpec : ChangeSpec := { name := "fnTwice", fn := fun _ => fun
  | [d1, d2, d3, d4] => { results := [.lit (.bool true)], args := [d1, d2, d3, d4] }
  | _ => none }
def fnTwiceRow : OpenClaim := { program := "ytjgkmnmemjebbaadoor", sum := "4c770e1e23516ac5235e6fc40a7bee3cbd587ad09456efb54eaa2b4a7ecb0242", func := "loop.example/pub-g03235/laws.FnTwice", spec := "fnTwice", inPlace := ["math/bits.Add64"], named := ["math/bits.deBruijn32tab", "math/bits.deBruijn64tab"], apart := false, laid := [("math/bits.deBruijn32tab", laid_math_bits_deBruijn32tab), ("math/bits.deBruijn64tab", laid_math_bits_deBruijn64tab)] }
def FnTwiceSaid : Prop := fnTwiceRow.holds Tryd.pinned (OpenSpec.ofChange fnTwiceSpec)

/-- ITS FALSE NEIGHBOUR: 'it returns false'. Refute it at one input. -/
def fnTwiceWrong : ChangeSpec := { name := "fnTwice", fn := fun _ => fun
  | [d1, d2, d3, d4] => { results := [.lit (.bool false)], args := [d1, d2, d3, d4] }
  | _ => none }
def FnTwiceWrongFalsely : Prop := fnTwiceRow.holds Tryd.pinned (OpenSpec.ofChange fnTwiceWrong)

/-- 'laws.FnMantBack': WHATEVER THE INPUT: true; the input reads as it did. -/
def fnMantBackSpec : ChangeSpec := { name := "fnMantBack", fn := fun _ => fun
  | [d] => { results := [.lit (.bool true)], args := [d] }
  | _ => none }
def fnMantBackRow : OpenClaim := { program := "ytjgkmnmemjebbaadoor", sum := "4c770e1e23516ac5235e6fc40a7bee3cbd587ad09456efb54eaa2b4a7ecb0242", func := "loop.example/pub-g03235/laws.FnMantBack", spec := "fnMantBack", inPlace := ["math/bits.Add64"], named := ["math/bits.deBruijn32tab", "math/bits.deBruijn64tab"], apart := false, laid := [("math/bits.deBruijn32tab", laid_math_bits_deBruijn32tab), ("math/bits.deBruijn64tab", laid_math_bits_deBruijn64tab)] }
def FnMantBackSaid : Prop := fnMantBackRow.holds Tryd.pinned (OpenSpec.ofChange fnMantBackSpec)

/-- ITS FALSE NEIGHBOUR: 'it returns false'. Refute it at one input. -/
def fnMantBackWrong : ChangeSpec := { name := "fnMantBack", fn := fun _ => fun
  | [d] => { results := [.lit (.bool false)], args := [d] }
  | _ => none }
def FnMantBackWrongFalsely : Prop := fnMantBackRow.holds Tryd.pinned (OpenSpec.ofChange fnMantBackWrong)

/-- 'laws.FnMinPrec': WHATEVER THE INPUT: true; the input reads as it did. -/
def fnMinPrecSpec : ChangeSpec := { name := "fnMinPrec", fn := fun _ => fun
  | [d] => { results := [.lit (.bool true)], args := [d] }
  | _ => none }
def fnMinPrecRow : OpenClaim := { program := "ytjgkmnmemjebbaadoor", sum := "4c770e1e23516ac5235e6fc40a7bee3cbd587ad09456efb54eaa2b4a7ecb0242", func := "loop.example/pub-g03235/laws.FnMinPrec", spec := "fnMinPrec", inPlace := ["math/bits.Add64"], named := ["math/bits.deBruijn32tab", "math/bits.deBruijn64tab"], apart := false, laid := [("math/bits.deBruijn32tab", laid_math_bits_deBruijn32tab), ("math/bits.deBruijn64tab", laid_math_bits_deBruijn64tab)] }
def FnMinPrecSaid : Prop := fnMinPrecRow.holds Tryd.pinned (OpenSpec.ofChange fnMinPrecSpec)

/-- ITS FALSE NEIGHBOUR: 'it returns false'. Refute it at one input. -/
def fnMinPrecWrong : ChangeSpec := { name := "fnMinPrec", fn := fun _ => fun
  | [d] => { results := [.lit (.bool false)], args := [d] }
  | _ => none }
def FnMinPrecWrongFalsely : Prop := fnMinPrecRow.holds Tryd.pinned (OpenSpec.ofChange fnMinPrecWrong)

/-- 'laws.FnIsInt': WHATEVER THE INPUT: true; the input reads as it did. -/
def fnIsIntSpec : ChangeSpec := { name := "fnIsInt", fn := fun _ => fun
  | [d] => { results := [.lit (.bool true)], args := [d] }
  | _ => none }
def fnIsIntRow : OpenClaim := { program := "ytjgkmnmemjebbaadoor", sum := "4c770e1e23516ac5235e6fc40a7bee3cbd587ad09456efb54eaa2b4a7ecb0242", func := "loop.example/pub-g03235/laws.FnIsInt", spec := "fnIsInt", inPlace := ["math/bits.Add64"], named := ["math/bits.deBruijn32tab", "math/bits.deBruijn64tab"], apart := false, laid := [("math/bits.deBruijn32tab", laid_math_bits_deBruijn32tab), ("math/bits.deBruijn64tab", laid_math_bits_deBruijn64tab)] }
def FnIsIntSaid : Prop := fnIsIntRow.holds Tryd.pinned (OpenSpec.ofChange fnIsIntSpec)

/-- ITS FALSE NEIGHBOUR: 'it returns false'. Refute it at one input. -/
def fnIsIntWrong : ChangeSpec := { name := "fnIsInt", fn := fun _ => fun
  | [d] => { results := [.lit (.bool false)], args := [d] }
  | _ => none }
def FnIsIntWrongFalsely : Prop := fnIsIntRow.holds Tryd.pinned (OpenSpec.ofChange fnIsIntWrong)

/-- 'laws.FnInt': WHATEVER THE INPUT: true; the input reads as it did. -/
def fnIntSpec : ChangeSpec := { name := "fnInt", fn := fun _ => fun
  | [d] => { results := [.lit (.bool true)], args := [d] }
  | _ => none }
def fnIntRow : OpenClaim := { program := "ytjgkmnmemjebbaadoor", sum := "4c770e1e23516ac5235e6fc40a7bee3cbd587ad09456efb54eaa2b4a7ecb0242", func := "loop.example/pub-g03235/laws.FnInt", spec := "fnInt", inPlace := ["math/bits.Add64"], named := ["math/bits.deBruijn32tab", "math/bits.deBruijn64tab"], apart := false, laid := [("math/bits.deBruijn32tab", laid_math_bits_deBruijn32tab), ("math/bits.deBruijn64tab", laid_math_bits_deBruijn64tab)] }
def FnIntSaid : Prop := fnIntRow.holds Tryd.pinned (OpenSpec.ofChange fnIntSpec)

/-- ITS FALSE NEIGHBOUR: 'it returns false'. Refute it at one input. -/
def fnIntWrong : ChangeSpec := { name := "fnInt", fn := fun _ => fun
  | [d] => { results := [.lit (.bool false)], args := [d] }
  | _ => none }
def FnIntWrongFalsely : Prop := fnIntRow.holds Tryd.pinned (OpenSpec.ofChange fnIntWrong)

/- THE SECOND FORM. 'bulk': how many values and letters a reading holds, each counted each time it is reached (what is shared counts as often as it is met; a slice's spare places count too). A statement '..UptoSaid' is the law's where the arguments, and the package variables that the reading takes, are together of bulk at most 1048576: NARROWER than '..Said'. Prove '..Said' where nothing that the law and all that it calls make is longer than what came in: it says more and counts as full. Else prove '..UptoSaid'. A law counts once. -/
mutual
def uptoBulk {H : Type} : DataW H → Nat
  | .lit (.string bytes) => bytes.length + 1
  | .lit _ => 1
  | .nil => 1
  | .ptr d => uptoBulk d + 1
  | .slice elems spare => uptoBulkAll elems + uptoBulkAll spare + 1
  | .agg parts => uptoBulkAll parts + 1
  | .iface _ d => uptoBulk d + 1
  | .map entries => uptoBulkEntries entries + 1
  | .held _ => 1
def uptoBulkAll {H : Type} : List (DataW H) → Nat
  | [] => 0
  | d :: r => uptoBulk d + uptoBulkAll r
def uptoBulkEntries {H : Type} : List (Lit × DataW H) → Nat
  | [] => 0
  | x :: r => uptoBulkEntry x + uptoBulkEntries r
def uptoBulkEntry {H : Type} : Lit × DataW H → Nat
  | (.string bytes, d) => bytes.length + uptoBulk d + 1
  | (_, d) => uptoBulk d + 1
 end
def uptoSmall : (H : Type) → List (DataW H) → Bool := fun _ ds => decide (uptoBulkAll ds ≤ 1048576)
def OpenSpec.upto (s : _root_.Go.ChangeSpec) : _root_.Go.OpenSpec := { _root_.Go.OpenSpec.ofChange s with cond := some uptoSmall }

/-- 'laws.FnSet', WHERE WHAT IT READS IS OF BULK AT MOST 1048576: true; the input reads as it did. -/
def fnSetUptoRow : OpenClaim := { program := "ytjgkmnmemjebbaadoor", sum := "4c770e1e23516ac5235e6fc40a7bee3cbd587ad09456efb54eaa2b4a7ecb0242", func := "loop.example/pub-g03235/laws.FnSet", spec := "fnSet", inPlace := ["math/bits.Add64"], named := ["math/bits.deBruijn32tab", "math/bits.deBruijn64tab"], apart := false, laid := [("math/bits.deBruijn32tab", laid_math_bits_deBruijn32tab), ("math/bits.deBruijn64tab", laid_math_bits_deBruijn64tab)], narrowed := true }
def FnSetUptoSaid : Prop := fnSetUptoRow.holds Tryd.pinned (OpenSpec.upto fnSetSpec)

/-- 'laws.FnSetPrec', WHERE WHAT IT READS IS OF BULK AT MOST 1048576: true; the input reads as it did. -/
def fnSetPrecUptoRow : OpenClaim := { program := "ytjgkmnmemjebbaadoor", sum := "4c770e1e23516ac5235e6fc40a7bee3cbd587ad09456efb54eaa2b4a7ecb0242", func := "loop.example/pub-g03235/laws.FnSetPrec", spec := "fnSetPrec", inPlace := ["math/bits.Add64"], named := ["math/bits.deBruijn32tab", "math/bits.deBruijn64tab"], apart := false, laid := [("math/bits.deBruijn32tab", laid_math_bits_deBruijn32tab), ("math/bits.deBruijn64tab", laid_math_bits_deBruijn64tab)], narrowed := true }
def FnSetPrecUptoSaid : Prop := fnSetPrecUptoRow.holds Tryd.pinned (OpenSpec.upto fnSetPrecSpec)

/-- 'laws.FnSetPrecZero', WHERE WHAT IT READS IS OF BULK AT MOST 1048576: true; the input reads as it did. -/
def fnSetPrecZeroUptoRow : OpenClaim := { program := "ytjgkmnmemjebbaadoor", sum := "4c770e1e23516ac5235e6fc40a7bee3cbd587ad09456efb54eaa2b4a7ecb0242", func := "loop.example/pub-g03235/laws.FnSetPrecZero", spec := "fnSetPrecZero", inPlace := ["math/bits.Add64"], named := ["math/bits.deBruijn32tab", "math/bits.deBruijn64tab"], apart := false, laid := [("math/bits.deBruijn32tab", laid_math_bits_deBruijn32tab), ("math/bits.deBruijn64tab", laid_math_bits_deBruijn64tab)], narrowed := true }
def FnSetPrecZeroUptoSaid : Prop := fnSetPrecZeroUptoRow.holds Tryd.pinned (OpenSpec.upto fnSetPrecZeroSpec)

/-- 'laws.FnSetMantExp', WHERE WHAT IT READS IS OF BULK AT MOST 1048576: true; the input reads as it did. -/
def fnSetMantExpUptoRow : OpenClaim := { program := "ytjgkmnmemjebbaadoor", sum := "4c770e1e23516ac5235e6fc40a7bee3cbd587ad09456efb54eaa2b4a7ecb0242", func := "loop.example/pub-g03235/laws.FnSetMantExp", spec := "fnSetMantExp", inPlace := ["math/bits.Add64"], named := ["math/bits.deBruijn32tab", "math/bits.deBruijn64tab"], apart := false, laid := [("math/bits.deBruijn32tab", laid_math_bits_deBruijn32tab), ("math/bits.deBruijn64tab", laid_math_bits_deBruijn64tab)], narrowed := true }
def FnSetMantExpUptoSaid : Prop := fnSetMantExpUptoRow.holds Tryd.pinned (OpenSpec.upto fnSetMantExpSpec)

/-- 'laws.FnMantExp', WHERE WHAT IT READS IS OF BULK AT MOST 1048576: true; the input reads as it did. -/
def fnMantExpUptoRow : OpenClaim := { program := "ytjgkmnmemjebbaadoor", sum := "4c770e1e23516ac5235e6fc40a7bee3cbd587ad09456efb54eaa2b4a7ecb0242", func := "loop.example/pub-g03235/laws.FnMantExp", spec := "fnMantExp", inPlace := ["math/bits.Add64"], named := ["math/bits.deBruijn32tab", "math/bits.deBruijn64tab"], apart := false, laid := [("math/bits.deBruijn32tab", laid_math_bits_deBruijn32tab), ("math/bits.deBruijn64tab", laid_math_bits_deBruijn64tab)], narrowed := true }
def FnMantExpUptoSaid : Prop := fnMantExpUptoRow.holds Tryd.pinned (OpenSpec.upto fnMantExpSpec)

/-- 'laws.FnNeg', WHERE WHAT IT READS IS OF BULK AT MOST 1048576: true; the input reads as it did. -/
def fnNegUptoRow : OpenClaim := { program := "ytjgkmnmemjebbaadoor", sum := "4c770e1e23516ac5235e6fc40a7bee3cbd587ad09456efb54eaa2b4a7ecb0242", func := "loop.example/pub-g03235/laws.FnNeg", spec := "fnNeg", inPlace := ["math/bits.Add64"], named := ["math/bits.deBruijn32tab", "math/bits.deBruijn64tab"], apart := false, laid := [("math/bits.deBruijn32tab", laid_math_bits_deBruijn32tab), ("math/bits.deBruijn64tab", laid_math_bits_deBruijn64tab)], narrowed := true }
def FnNegUptoSaid : Prop := fnNegUptoRow.holds Tryd.pinned (OpenSpec.upto fnNegSpec)

/-- 'laws.FnAbs', WHERE WHAT IT READS IS OF BULK AT MOST 1048576: true; the input reads as it did. -/
def fnAbsUptoRow : OpenClaim := { program := "ytjgkmnmemjebbaadoor", sum := "4c770e1e23516ac5235e6fc40a7bee3cbd587ad09456efb54eaa2b4a7ecb0242", func := "loop.example/pub-g03235/laws.FnAbs", spec := "fnAbs", inPlace := ["math/bits.Add64"], named := ["math/bits.deBruijn32tab", "math/bits.deBruijn64tab"], apart := false, laid := [("math/bits.deBruijn32tab", laid_math_bits_deBruijn32tab), ("math/bits.deBruijn64tab", laid_math_bits_deBruijn64tab)], narrowed := true }
def FnAbsUptoSaid : Prop := fnAbsUptoRow.holds Tryd.pinned (OpenSpec.upto fnAbsSpec)

/-- 'laws.FnTwice', WHERE WHAT IT READS IS OF BULK AT MOST 1048576: true; the input reads as it did. -/
def fnTwiceUptoRow : OpenClaim := { program := "ytjgkmnmemjebbaadoor", sum := "4c770e1e23516ac5235e6fc40a7bee3cbd587ad09456efb54eaa2b4a7ecb0242", func := "loop.example/pub-g03235/laws.FnTwice", spec := "fnTwice", inPlace := ["math/bits.Add64"], named := ["math/bits.deBruijn32tab", "math/bits.deBruijn64tab"], apart := false, laid := [("math/bits.deBruijn32tab", laid_math_bits_deBruijn32tab), ("math/bits.deBruijn64tab", laid_math_bits_deBruijn64tab)], narrowed := true }
def FnTwiceUptoSaid : Prop := fnTwiceUptoRow.holds Tryd.pinned (OpenSpec.upto fnTwiceSpec)

/-- 'laws.FnMantBack', WHERE WHAT IT READS IS OF BULK AT MOST 1048576: true; the input reads as it did. -/
def fnMantBackUptoRow : OpenClaim := { program := "ytjgkmnmemjebbaadoor", sum := "4c770e1e23516ac5235e6fc40a7bee3cbd587ad09456efb54eaa2b4a7ecb0242", func := "loop.example/pub-g03235/laws.FnMantBack", spec := "fnMantBack", inPlace := ["math/bits.Add64"], named := ["math/bits.deBruijn32tab", "math/bits.deBruijn64tab"], apart := false, laid := [("math/bits.deBruijn32tab", laid_math_bits_deBruijn32tab), ("math/bits.deBruijn64tab", laid_math_bits_deBruijn64tab)], narrowed := true }
def FnMantBackUptoSaid : Prop := fnMantBackUptoRow.holds Tryd.pinned (OpenSpec.upto fnMantBackSpec)

/-- 'laws.FnMinPrec', WHERE WHAT IT READS IS OF BULK AT MOST 1048576: true; the input reads as it did. -/
def fnMinPrecUptoRow : OpenClaim := { program := "ytjgkmnmemjebbaadoor", sum := "4c770e1e23516ac5235e6fc40a7bee3cbd587ad09456efb54eaa2b4a7ecb0242", func := "loop.example/pub-g03235/laws.FnMinPrec", spec := "fnMinPrec", inPlace := ["math/bits.Add64"], named := ["math/bits.deBruijn32tab", "math/bits.deBruijn64tab"], apart := false, laid := [("math/bits.deBruijn32tab", laid_math_bits_deBruijn32tab), ("math/bits.deBruijn64tab", laid_math_bits_deBruijn64tab)], narrowed := true }
def FnMinPrecUptoSaid : Prop := fnMinPrecUptoRow.holds Tryd.pinned (OpenSpec.upto fnMinPrecSpec)

/-- 'laws.FnIsInt', WHERE WHAT IT READS IS OF BULK AT MOST 1048576: true; the input reads as it did. -/
def fnIsIntUptoRow : OpenClaim := { program := "ytjgkmnmemjebbaadoor", sum := "4c770e1e23516ac5235e6fc40a7bee3cbd587ad09456efb54eaa2b4a7ecb0242", func := "loop.example/pub-g03235/laws.FnIsInt", spec := "fnIsInt", inPlace := ["math/bits.Add64"], named := ["math/bits.deBruijn32tab", "math/bits.deBruijn64tab"], apart := false, laid := [("math/bits.deBruijn32tab", laid_math_bits_deBruijn32tab), ("math/bits.deBruijn64tab", laid_math_bits_deBruijn64tab)], narrowed := true }
def FnIsIntUptoSaid : Prop := fnIsIntUptoRow.holds Tryd.pinned (OpenSpec.upto fnIsIntSpec)

/-- 'laws.FnInt', WHERE WHAT IT READS IS OF BULK AT MOST 1048576: true; the input reads as it did. -/
def fnIntUptoRow : OpenClaim := { program := "ytjgkmnmemjebbaadoor", sum := "4c770e1e23516ac5235e6fc40a7bee3cbd587ad09456efb54eaa2b4a7ecb0242", func := "loop.example/pub-g03235/laws.FnInt", spec := "fnInt", inPlace := ["math/bits.Add64"], named := ["math/bits.deBruijn32tab", "math/bits.deBruijn64tab"], apart := false, laid := [("math/bits.deBruijn32tab", laid_math_bits_deBruijn32tab), ("math/bits.deBruijn64tab", laid_math_bits_deBruijn64tab)], narrowed := true }
def FnIntUptoSaid : Prop := fnIntUptoRow.holds Tryd.pinned (OpenSpec.upto fnIntSpec)

end Rows
end Go.Proofs.YtjgkmnmemjebbaaDoor
