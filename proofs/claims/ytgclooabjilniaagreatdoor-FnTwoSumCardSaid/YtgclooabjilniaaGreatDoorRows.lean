/-
  NARROWER THAN 'FOR EVERY INPUT', by the rows' own cells (each row's printed sentence says how): FnMulInt: laid · FnMul: laid · FnSterbenz: laid · FnTwoSum: laid · FnQuo: laid · FnCommute: laid · FnInfinite: laid · FnScale: laid · FnZeroSigns: laid · FnInto: laid.
  DERIVED. THE GIVEN ROWS OF THIS SEAT. 10 by the template 'for every input the law returns true; each argument reads behind the call as it read before'; 0 by the template 'total and deterministic' (their statements: YtgclooabjilniaaGreatDoorTotals.lean).
  GIVEN WITH THE SEED: the statements are not yours to turn. If you find one false, say at which input.
  Laid BY PROGRAM, IN A SANDBOX (cutbox-rows.mjs): the forced cells as the released guide's own fill.sh prints them over the translation e0e1cfc3ee1b21e9… (all of the seat's roots in one cut). By AI agents, Wed Nov 11 2026. No macro, syntax, notation, axiom, sorry.
-/
import Derived.Test.YtgclooabjilniaaGreatDoorChecked
import GoSem.Claim
import GoSem.ClaimJoined
import GoSem.ClaimMapViews
import Derived.JoinedTies
import Derived.KernelRfl
namespace Go.Proofs.YtgclooabjilniaaGreatDoor
/- THE CELL 'sum', in the pinned program and in every row, IS THE sha256 OF THE DUMP (.gsa) THAT YtgclooabjilniaaGreatDoorProg.lean LOADS. Nothing in Lean hashes anything: it is a label: what it is worth is what the hold of that sum in a sandbox is worth. -/
noncomputable def Tryz.pinned : Pinned := { name := "ytgclooabjilniaagreatdoor", sum := "e0e1cfc3ee1b21e9e19a46556bd889ce91eacb6f8f729d9b9ce870f30a9472b3", checked := Tryz.checked }
namespace Rows
def none {H : Type} : Left H := { results := [], args := [] }

/- WHAT THE LISTED PACKAGE-LEVEL VARIABLES READ AS WHEN THE CALL BEGINS. Each datum BY PROGRAM (the guide's laid-datum.mjs) off the statement by which the dump's own 'gosem.cut.vars' lays the variable. In a bare row this is a premise. The card (YtgclooabjilniaaGreatDoorCards.lean) ties it to the program's text. -/
def laid_math_bits_deBruijn32tab {H : Type} : DataW H := .agg [.lit (.int .u8 0), .lit (.int .u8 1), .lit (.int .u8 28), .lit (.int .u8 2), .lit (.int .u8 29), .lit (.int .u8 14), .lit (.int .u8 24), .lit (.int .u8 3), .lit (.int .u8 30), .lit (.int .u8 22), .lit (.int .u8 20), .lit (.int .u8 15), .lit (.int .u8 25), .lit (.int .u8 17), .lit (.int .u8 4), .lit (.int .u8 8), .lit (.int .u8 31), .lit (.int .u8 27), .lit (.int .u8 13), .lit (.int .u8 23), .lit (.int .u8 21), .lit (.int .u8 19), .lit (.int .u8 16), .lit (.int .u8 7), .lit (.int .u8 26), .lit (.int .u8 12), .lit (.int .u8 18), .lit (.int .u8 6), .lit (.int .u8 11), .lit (.int .u8 5), .lit (.int .u8 10), .lit (.int .u8 9)]
def laid_math_bits_deBruijn64tab {H : Type} : DataW H := .agg [.lit (.int .u8 0), .lit (.int .u8 1), .lit (.int .u8 56), .lit (.int .u8 2), .lit (.int .u8 57), .lit (.int .u8 49), .lit (.int .u8 28), .lit (.int .u8 3), .lit (.int .u8 61), .lit (.int .u8 58), .lit (.int .u8 42), .lit (.int .u8 50), .lit (.int .u8 38), .lit (.int .u8 29), .lit (.int .u8 17), .lit (.int .u8 4), .lit (.int .u8 62), .lit (.int .u8 47), .lit (.int .u8 59), .lit (.int .u8 36), .lit (.int .u8 45), .lit (.int .u8 43), .lit (.int .u8 51), .lit (.int .u8 22), .lit (.int .u8 53), .lit (.int .u8 39), .lit (.int .u8 33), .lit (.int .u8 30), .lit (.int .u8 24), .lit (.int .u8 18), .lit (.int .u8 12), .lit (.int .u8 5), .lit (.int .u8 63), .lit (.int .u8 55), .lit (.int .u8 48), .lit (.int .u8 27), .lit (.int .u8 60), .lit (.int .u8 41), .lit (.int .u8 37), .lit (.int .u8 16), .lit (.int .u8 46), .lit (.int .u8 35), .lit (.int .u8 44), .lit (.int .u8 21), .lit (.int .u8 52), .lit (.int .u8 32), .lit (.int .u8 23), .lit (.int .u8 11), .lit (.int .u8 54), .lit (.int .u8 26), .lit (.int .u8 40), .lit (.int .u8 15), .lit (.int .u8 34), .lit (.int .u8 20), .lit (.int .u8 31), .lit (.int .u8 10), .lit (.int .u8 25), .lit (.int .u8 14), .lit (.int .u8 19), .lit (.int .u8 9), .lit (.int .u8 13), .lit (.int .u8 8), .lit (.int .u8 7), .lit (.int .u8 6)]
def laid_loop_example_pub_g03235_pub_bigall_karatsubaThreshold {H : Type} : DataW H := .lit (.int .i64 40)
def laid_loop_example_pub_g03235_pub_bigall_basicSqrThreshold {H : Type} : DataW H := .lit (.int .i64 12)
def laid_loop_example_pub_g03235_pub_bigall_karatsubaSqrThreshold {H : Type} : DataW H := .lit (.int .i64 80)
def laid_loop_example_pub_g03235_pub_bigall_divRecursiveThreshold {H : Type} : DataW H := .lit (.int .i64 40)

/-- 'laws.FnMulInt': WHATEVER THE INPUT: true; the input reads as it did. -/
def fnMulIntSpec : ChangeSpec := { name := "fnMulInt", vars := ["loop.example/pub-g03235/pub/bigall.basicSqrThreshold", "loop.example/pub-g03235/pub/bigall.karatsubaSqrThreshold", "loop.example/pub-g03235/pub/bigall.karatsubaThreshold"], fn := fun _ => fun
  | [d1, d2, d3, d4, g1, g2, g3] => { results := [.lit (.bool true)], args := [d1, d2, d3, d4], vars := [g1, g2, g3] }
  | _ => none }
def fnMulIntRow : OpenClaim := { program := "ytgclooabjilniaagreatdoor", sum := "e0e1cfc3ee1b21e9e19a46556bd889ce91eacb6f8f729d9b9ce870f30a9472b3", func := "loop.example/pub-g03235/laws.FnMulInt", spec := "fnMulInt", inPlace := ["math/bits.Add64", "math/bits.Sub64"], recurses := true, named := ["loop.example/pub-g03235/pub/bigall.basicSqrThreshold", "loop.example/pub-g03235/pub/bigall.karatsubaSqrThreshold", "loop.example/pub-g03235/pub/bigall.karatsubaThreshold", "math/bits.deBruijn32tab", "math/bits.deBruijn64tab"], apart := false, laid := [("math/bits.deBruijn32tab", laid_math_bits_deBruijn32tab), ("math/bits.deBruijn64tab", laid_math_bits_deBruijn64tab), ("loop.example/pub-g03235/pub/bigall.karatsubaThreshold", laid_loop_example_pub_g03235_pub_bigall_karatsubaThreshold), ("loop.example/pub-g03235/pub/bigall.basicSqrThreshold", laid_loop_example_pub_g03235_pub_bigall_basicSqrThreshold), ("loop.example/pub-g03235/pub/bigall.karatsubaSqrThreshold", laid_loop_example_pub_g03235_pub_bigall_karatsubaSqrThreshold)] }
def FnMulIntSaid : Prop := fnMulIntRow.holds Tryz.pinned (OpenSpec.ofChange fnMulIntSpec)

/-- ITS FALSE NEIGHBOUR: 'it returns false'. Refute it at one input. -/
def fnMulIntWrong : ChangeSpec := { name := "fnMulInt", vars := ["loop.example/pub-g03235/pub/bigall.basicSqrThreshold", "loop.example/pub-g03235/pub/bigall.karatsubaSqrThreshold", "loop.example/pub-g03235/pub/bigall.karatsubaThreshold"], fn := fun _ => fun
  | [d1, d2, d3, d4, g1, g2, g3] => { results := [.lit (.bool false)], args := [d1, d2, d3, d4], vars := [g1, g2, g3] }
  | _ => none }
def FnMulIntWrongFalsely : Prop := fnMulIntRow.holds Tryz.pinned (OpenSpec.ofChange fnMulIntWrong)

/-- 'laws.FnMul': WHATEVER THE INPUT: true; the input reads as it did. -/
def fnMulSpec : ChangeSpec := { name := "fnMul", vars := ["loop.example/pub-g03235/pub/bigall.basicSqrThreshold", "loop.example/pub-g03235/pub/bigall.karatsubaSqrThreshold", "loop.example/pub-g03235/pub/bigall.karatsubaThreshold"], fn := fun _ => fun
  | [d1, d2, d3, d4, g1, g2, g3] => { results := [.lit (.bool true)], args := [d1, d2, d3, d4], vars := [g1, g2, g3] }
  | _ => none }
def fnMulRow : OpenClaim := { program := "ytgclooabjilniaagreatdoor", sum := "e0e1cfc3ee1b21e9e19a46556bd889ce91eacb6f8f729d9b9ce870f30a9472b3", func := "loop.example/pub-g03235/laws.FnMul", spec := "fnMul", inPlace := ["math/bits.Add64", "math/bits.Sub64"], recurses := true, named := ["loop.example/pub-g03235/pub/bigall.basicSqrThreshold", "loop.example/pub-g03235/pub/bigall.karatsubaSqrThreshold", "loop.example/pub-g03235/pub/bigall.karatsubaThreshold", "math/bits.deBruijn32tab", "math/bits.deBruijn64tab"], apart := false, laid := [("math/bits.deBruijn32tab", laid_math_bits_deBruijn32tab), ("math/bits.deBruijn64tab", laid_math_bits_deBruijn64tab), ("loop.example/pub-g03235/pub/bigall.karatsubaThreshold", laid_loop_example_pub_g03235_pub_bigall_karatsubaThreshold), ("loop.example/pub-g03235/pub/bigall.basicSqrThreshold", laid_loop_example_pub_g03235_pub_bigall_basicSqrThreshold), ("loop.example/pub-g03235/pub/bigall.karatsubaSqrThreshold", laid_loop_example_pub_g03235_pub_bigall_karatsubaSqrThreshold)] }
def FnMulSaid : Prop := fnMulRow.holds Tryz.pinned (OpenSpec.ofChange fnMulSpec)

/-- ITS FALSE NEIGHBOUR: 'it returns false'. Refute it at one input. -/
def fnMulWrong : ChangeSpec := { name := "fnMul", vars := ["loop.example/pub-g03235/pub/bigall.basicSqrThreshold", "loop.example/pub-g03235/pub/bigall.karatsubaSqrThreshold", "loop.example/pub-g03235/pub/bigall.karatsubaThreshold"], fn := fun _ => fun
  | [d1, d2, d3, d4, g1, g2, g3] => { results := [.lit (.bool false)], args := [d1, d2, d3, d4], vars := [g1, g2, g3] }
  | _ => none }
def FnMulWrongFalsely : Prop := fnMulRow.holds Tryz.pinned (OpenSpec.ofChange fnMulWrong)

/-- 'laws.FnSterbenz': WHATEVER THE INPUT: true; the input reads as it did. -/
def fnSterbenzSpec : ChangeSpec := { name := "fnSterbenz", fn := fun _ => fun
  | [d1, d2, d3] => { results := [.lit (.bool true)], args := [d1, d2, d3] }
  | _ => none }
def fnSterbenzRow : OpenClaim := { program := "ytgclooabjilniaagreatdoor", sum := "e0e1cfc3ee1b21e9e19a46556bd889ce91eacb6f8f729d9b9ce870f30a9472b3", func := "loop.example/pub-g03235/laws.FnSterbenz", spec := "fnSterbenz", inPlace := ["math/bits.Add64", "math/bits.Sub64"], recurses := true, named := ["math/bits.deBruijn32tab", "math/bits.deBruijn64tab"], apart := false, laid := [("math/bits.deBruijn32tab", laid_math_bits_deBruijn32tab), ("math/bits.deBruijn64tab", laid_math_bits_deBruijn64tab)] }
def FnSterbenzSaid : Prop := fnSterbenzRow.holds Tryz.pinned (OpenSpec.ofChange fnSterbenzSpec)

/-- ITS FALSE NEIGHBOUR: 'it returns false'. Refute it at one input. -/
def fnSterbenzWrong : ChangeSpec := { name := "fnSterbenz", fn := fun _ => fun
  | [d1, d2, d3] => { results := [.lit (.bool false)], args := [d1, d2, d3] }
  | _ => none }
def FnSterbenzWrongFalsely : Prop := fnSterbenzRow.holds Tryz.pinned (OpenSpec.ofChange fnSterbenzWrong)

/-- 'laws.FnTwoSum': WHATEVER THE INPUT: true; the input reads as it did. -/
def fnTwoSumSpec : ChangeSpec := { name := "fnTwoSum", fn := fun _ => fun
  | [d1, d2, d3] => { results := [.lit (.bool true)], args := [d1, d2, d3] }
  | _ => none }
def fnTwoSumRow : OpenClaim := { program := "ytgclooabjilniaagreatdoor", sum := "e0e1cfc3ee1b21e9e19a46556bd889ce91eacb6f8f729d9b9ce870f30a9472b3", func := "loop.example/pub-g03235/laws.FnTwoSum", spec := "fnTwoSum", inPlace := ["math/bits.Add64", "math/bits.Sub64"], recurses := true, named := ["math/bits.deBruijn32tab", "math/bits.deBruijn64tab"], apart := false, laid := [("math/bits.deBruijn32tab", laid_math_bits_deBruijn32tab), ("math/bits.deBruijn64tab", laid_math_bits_deBruijn64tab)] }
def FnTwoSumSaid : Prop := fnTwoSumRow.holds Tryz.pinned (OpenSpec.ofChange fnTwoSumSpec)

/-- ITS FALSE NEIGHBOUR: 'it returns false'. Refute it at one input. -/
def fnTwoSumWrong : ChangeSpec := { name := "fnTwoSum", fn := fun _ => fun
  | [d1, d2, d3] => { results := [.lit (.bool false)], args := [d1, d2, d3] }
  | _ => none }
def FnTwoSumWrongFalsely : Prop := fnTwoSumRow.holds Tryz.pinned (OpenSpec.ofChange fnTwoSumWrong)

/-- 'laws.FnQuo': WHATEVER THE INPUT: true; the input reads as it did. -/
def fnQuoSpec : ChangeSpec := { name := "fnQuo", vars := ["loop.example/pub-g03235/pub/bigall.divRecursiveThreshold", "loop.example/pub-g03235/pub/bigall.karatsubaThreshold", "loop.example/pub-g03235/pub/bigall.basicSqrThreshold", "loop.example/pub-g03235/pub/bigall.karatsubaSqrThreshold"], fn := fun _ => fun
  | [d1, d2, d3, d4, g1, g2, g3, g4] => { results := [.lit (.bool true)], args := [d1, d2, d3, d4], vars := [g1, g2, g3, g4] }
  | _ => none }
def fnQuoRow : OpenClaim := { program := "ytgclooabjilniaagreatdoor", sum := "e0e1cfc3ee1b21e9e19a46556bd889ce91eacb6f8f729d9b9ce870f30a9472b3", func := "loop.example/pub-g03235/laws.FnQuo", spec := "fnQuo", inPlace := ["math/bits.Add64", "math/bits.Sub64"], recurses := true, named := ["loop.example/pub-g03235/pub/bigall.divRecursiveThreshold", "loop.example/pub-g03235/pub/bigall.karatsubaThreshold", "loop.example/pub-g03235/pub/bigall.basicSqrThreshold", "loop.example/pub-g03235/pub/bigall.karatsubaSqrThreshold", "math/bits.deBruijn32tab", "math/bits.deBruijn64tab"], apart := false, laid := [("math/bits.deBruijn32tab", laid_math_bits_deBruijn32tab), ("math/bits.deBruijn64tab", laid_math_bits_deBruijn64tab), ("loop.example/pub-g03235/pub/bigall.divRecursiveThreshold", laid_loop_example_pub_g03235_pub_bigall_divRecursiveThreshold), ("loop.example/pub-g03235/pub/bigall.karatsubaThreshold", laid_loop_example_pub_g03235_pub_bigall_karatsubaThreshold), ("loop.example/pub-g03235/pub/bigall.basicSqrThreshold", laid_loop_example_pub_g03235_pub_bigall_basicSqrThreshold), ("loop.example/pub-g03235/pub/bigall.karatsubaSqrThreshold", laid_loop_example_pub_g03235_pub_bigall_karatsubaSqrThreshold)] }
def FnQuoSaid : Prop := fnQuoRow.holds Tryz.pinned (OpenSpec.ofChange fnQuoSpec)

/-- ITS FALSE NEIGHBOUR: 'it returns false'. Refute it at one input. -/
def fnQuoWrong : ChangeSpec := { name := "fnQuo", vars := ["loop.example/pub-g03235/pub/bigall.divRecursiveThreshold", "loop.example/pub-g03235/pub/bigall.karatsubaThreshold", "loop.example/pub-g03235/pub/bigall.basicSqrThreshold", "loop.example/pub-g03235/pub/bigall.karatsubaSqrThreshold"], fn := fun _ => fun
  | [d1, d2, d3, d4, g1, g2, g3, g4] => { results := [.lit (.bool false)], args := [d1, d2, d3, d4], vars := [g1, g2, g3, g4] }
  | _ => none }
def FnQuoWrongFalsely : Prop := fnQuoRow.holds Tryz.pinned (OpenSpec.ofChange fnQuoWrong)

/-- 'laws.FnCommute': WHATEVER THE INPUT: true; the input reads as it did. -/
def fnCommuteSpec : ChangeSpec := { name := "fnCommute", vars := ["loop.example/pub-g03235/pub/bigall.basicSqrThreshold", "loop.example/pub-g03235/pub/bigall.karatsubaSqrThreshold", "loop.example/pub-g03235/pub/bigall.karatsubaThreshold", "loop.example/pub-g03235/pub/bigall.divRecursiveThreshold"], fn := fun _ => fun
  | [d1, d2, d3, d4, d5, g1, g2, g3, g4] => { results := [.lit (.bool true)], args := [d1, d2, d3, d4, d5], vars := [g1, g2, g3, g4] }
  | _ => none }
def fnCommuteRow : OpenClaim := { program := "ytgclooabjilniaagreatdoor", sum := "e0e1cfc3ee1b21e9e19a46556bd889ce91eacb6f8f729d9b9ce870f30a9472b3", func := "loop.example/pub-g03235/laws.FnCommute", spec := "fnCommute", inPlace := ["math/bits.Add64", "math/bits.Sub64"], recurses := true, named := ["math/bits.deBruijn32tab", "math/bits.deBruijn64tab", "loop.example/pub-g03235/pub/bigall.basicSqrThreshold", "loop.example/pub-g03235/pub/bigall.karatsubaSqrThreshold", "loop.example/pub-g03235/pub/bigall.karatsubaThreshold", "loop.example/pub-g03235/pub/bigall.divRecursiveThreshold"], apart := false, laid := [("math/bits.deBruijn32tab", laid_math_bits_deBruijn32tab), ("math/bits.deBruijn64tab", laid_math_bits_deBruijn64tab), ("loop.example/pub-g03235/pub/bigall.divRecursiveThreshold", laid_loop_example_pub_g03235_pub_bigall_divRecursiveThreshold), ("loop.example/pub-g03235/pub/bigall.karatsubaThreshold", laid_loop_example_pub_g03235_pub_bigall_karatsubaThreshold), ("loop.example/pub-g03235/pub/bigall.basicSqrThreshold", laid_loop_example_pub_g03235_pub_bigall_basicSqrThreshold), ("loop.example/pub-g03235/pub/bigall.karatsubaSqrThreshold", laid_loop_example_pub_g03235_pub_bigall_karatsubaSqrThreshold)] }
def FnCommuteSaid : Prop := fnCommuteRow.holds Tryz.pinned (OpenSpec.ofChange fnCommuteSpec)

/-- ITS FALSE NEIGHBOUR: 'it returns false'. Refute it at one input. -/
def fnCommuteWrong : ChangeSpec := { name := "fnCommute", vars := ["loop.example/pub-g03235/pub/bigall.basicSqrThreshold", "loop.example/pub-g03235/pub/bigall.karatsubaSqrThreshold", "loop.example/pub-g03235/pub/bigall.karatsubaThreshold", "loop.example/pub-g03235/pub/bigall.divRecursiveThreshold"], fn := fun _ => fun
  | [d1, d2, d3, d4, d5, g1, g2, g3, g4] => { results := [.lit (.bool false)], args := [d1, d2, d3, d4, d5], vars := [g1, g2, g3, g4] }
  | _ => none }
def FnCommuteWrongFalsely : Prop := fnCommuteRow.holds Tryz.pinned (OpenSpec.ofChange fnCommuteWrong)

/-- 'laws.FnInfinite': WHATEVER THE INPUT: true; the input reads as it did. -/
def fnInfiniteSpec : ChangeSpec := { name := "fnInfinite", vars := ["loop.example/pub-g03235/pub/bigall.basicSqrThreshold", "loop.example/pub-g03235/pub/bigall.karatsubaSqrThreshold", "loop.example/pub-g03235/pub/bigall.karatsubaThreshold", "loop.example/pub-g03235/pub/bigall.divRecursiveThreshold"], fn := fun _ => fun
  | [d1, d2, d3, d4, d5, g1, g2, g3, g4] => { results := [.lit (.bool true)], args := [d1, d2, d3, d4, d5], vars := [g1, g2, g3, g4] }
  | _ => none }
def fnInfiniteRow : OpenClaim := { program := "ytgclooabjilniaagreatdoor", sum := "e0e1cfc3ee1b21e9e19a46556bd889ce91eacb6f8f729d9b9ce870f30a9472b3", func := "loop.example/pub-g03235/laws.FnInfinite", spec := "fnInfinite", inPlace := ["math/bits.Add64", "math/bits.Sub64"], recurses := true, named := ["math/bits.deBruijn32tab", "math/bits.deBruijn64tab", "loop.example/pub-g03235/pub/bigall.basicSqrThreshold", "loop.example/pub-g03235/pub/bigall.karatsubaSqrThreshold", "loop.example/pub-g03235/pub/bigall.karatsubaThreshold", "loop.example/pub-g03235/pub/bigall.divRecursiveThreshold"], apart := false, laid := [("math/bits.deBruijn32tab", laid_math_bits_deBruijn32tab), ("math/bits.deBruijn64tab", laid_math_bits_deBruijn64tab), ("loop.example/pub-g03235/pub/bigall.divRecursiveThreshold", laid_loop_example_pub_g03235_pub_bigall_divRecursiveThreshold), ("loop.example/pub-g03235/pub/bigall.karatsubaThreshold", laid_loop_example_pub_g03235_pub_bigall_karatsubaThreshold), ("loop.example/pub-g03235/pub/bigall.basicSqrThreshold", laid_loop_example_pub_g03235_pub_bigall_basicSqrThreshold), ("loop.example/pub-g03235/pub/bigall.karatsubaSqrThreshold", laid_loop_example_pub_g03235_pub_bigall_karatsubaSqrThreshold)] }
def FnInfiniteSaid : Prop := fnInfiniteRow.holds Tryz.pinned (OpenSpec.ofChange fnInfiniteSpec)

/-- ITS FALSE NEIGHBOUR: 'it returns false'. Refute it at one input. -/
def fnInfiniteWrong : ChangeSpec := { name := "fnInfinite", vars := ["loop.example/pub-g03235/pub/bigall.basicSqrThreshold", "loop.example/pub-g03235/pub/bigall.karatsubaSqrThreshold", "loop.example/pub-g03235/pub/bigall.karatsubaThreshold", "loop.example/pub-g03235/pub/bigall.divRecursiveThreshold"], fn := fun _ => fun
  | [d1, d2, d3, d4, d5, g1, g2, g3, g4] => { results := [.lit (.bool false)], args := [d1, d2, d3, d4, d5], vars := [g1, g2, g3, g4] }
  | _ => none }
def FnInfiniteWrongFalsely : Prop := fnInfiniteRow.holds Tryz.pinned (OpenSpec.ofChange fnInfiniteWrong)

/-- 'laws.FnScale': WHATEVER THE INPUT: true; the input reads as it did. -/
def fnScaleSpec : ChangeSpec := { name := "fnScale", vars := ["loop.example/pub-g03235/pub/bigall.basicSqrThreshold", "loop.example/pub-g03235/pub/bigall.karatsubaSqrThreshold", "loop.example/pub-g03235/pub/bigall.karatsubaThreshold", "loop.example/pub-g03235/pub/bigall.divRecursiveThreshold"], fn := fun _ => fun
  | [d1, d2, d3, d4, d5, d6, g1, g2, g3, g4] => { results := [.lit (.bool true)], args := [d1, d2, d3, d4, d5, d6], vars := [g1, g2, g3, g4] }
  | _ => none }
def fnScaleRow : OpenClaim := { program := "ytgclooabjilniaagreatdoor", sum := "e0e1cfc3ee1b21e9e19a46556bd889ce91eacb6f8f729d9b9ce870f30a9472b3", func := "loop.example/pub-g03235/laws.FnScale", spec := "fnScale", inPlace := ["math/bits.Add64", "math/bits.Sub64"], recurses := true, named := ["math/bits.deBruijn32tab", "math/bits.deBruijn64tab", "loop.example/pub-g03235/pub/bigall.basicSqrThreshold", "loop.example/pub-g03235/pub/bigall.karatsubaSqrThreshold", "loop.example/pub-g03235/pub/bigall.karatsubaThreshold", "loop.example/pub-g03235/pub/bigall.divRecursiveThreshold"], apart := false, laid := [("math/bits.deBruijn32tab", laid_math_bits_deBruijn32tab), ("math/bits.deBruijn64tab", laid_math_bits_deBruijn64tab), ("loop.example/pub-g03235/pub/bigall.divRecursiveThreshold", laid_loop_example_pub_g03235_pub_bigall_divRecursiveThreshold), ("loop.example/pub-g03235/pub/bigall.karatsubaThreshold", laid_loop_example_pub_g03235_pub_bigall_karatsubaThreshold), ("loop.example/pub-g03235/pub/bigall.basicSqrThreshold", laid_loop_example_pub_g03235_pub_bigall_basicSqrThreshold), ("loop.example/pub-g03235/pub/bigall.karatsubaSqrThreshold", laid_loop_example_pub_g03235_pub_bigall_karatsubaSqrThreshold)] }
def FnScaleSaid : Prop := fnScaleRow.holds Tryz.pinned (OpenSpec.ofChange fnScaleSpec)

/-- ITS FALSE NEIGHBOUR: 'it returns false'. Refute it at one input. -/
def fnScaleWrong : ChangeSpec := { name := "fnScale", vars := ["loop.example/pub-g03235/pub/bigall.basicSqrThreshold", "loop.example/pub-g03235/pub/bigall.karatsubaSqrThreshold", "loop.example/pub-g03235/pub/bigall.karatsubaThreshold", "loop.example/pub-g03235/pub/bigall.divRecursiveThreshold"], fn := fun _ => fun
  | [d1, d2, d3, d4, d5, d6, g1, g2, g3, g4] => { results := [.lit (.bool false)], args := [d1, d2, d3, d4, d5, d6], vars := [g1, g2, g3, g4] }
  | _ => none }
def FnScaleWrongFalsely : Prop := fnScaleRow.holds Tryz.pinned (OpenSpec.ofChange fnScaleWrong)

/-- 'laws.FnZeroSigns': WHATEVER THE INPUT: true; the input reads as it did. -/
def fnZeroSignsSpec : ChangeSpec := { name := "fnZeroSigns", vars := ["loop.example/pub-g03235/pub/bigall.basicSqrThreshold", "loop.example/pub-g03235/pub/bigall.karatsubaSqrThreshold", "loop.example/pub-g03235/pub/bigall.karatsubaThreshold", "loop.example/pub-g03235/pub/bigall.divRecursiveThreshold"], fn := fun _ => fun
  | [d1, d2, d3, d4, d5, g1, g2, g3, g4] => { results := [.lit (.bool true)], args := [d1, d2, d3, d4, d5], vars := [g1, g2, g3, g4] }
  | _ => none }
def fnZeroSignsRow : OpenClaim := { program := "ytgclooabjilniaagreatdoor", sum := "e0e1cfc3ee1b21e9e19a46556bd889ce91eacb6f8f729d9b9ce870f30a9472b3", func := "loop.example/pub-g03235/laws.FnZeroSigns", spec := "fnZeroSigns", inPlace := ["math/bits.Add64", "math/bits.Sub64"], recurses := true, named := ["math/bits.deBruijn32tab", "math/bits.deBruijn64tab", "loop.example/pub-g03235/pub/bigall.basicSqrThreshold", "loop.example/pub-g03235/pub/bigall.karatsubaSqrThreshold", "loop.example/pub-g03235/pub/bigall.karatsubaThreshold", "loop.example/pub-g03235/pub/bigall.divRecursiveThreshold"], apart := false, laid := [("math/bits.deBruijn32tab", laid_math_bits_deBruijn32tab), ("math/bits.deBruijn64tab", laid_math_bits_deBruijn64tab), ("loop.example/pub-g03235/pub/bigall.divRecursiveThreshold", laid_loop_example_pub_g03235_pub_bigall_divRecursiveThreshold), ("loop.example/pub-g03235/pub/bigall.karatsubaThreshold", laid_loop_example_pub_g03235_pub_bigall_karatsubaThreshold), ("loop.example/pub-g03235/pub/bigall.basicSqrThreshold", laid_loop_example_pub_g03235_pub_bigall_basicSqrThreshold), ("loop.example/pub-g03235/pub/bigall.karatsubaSqrThreshold", laid_loop_example_pub_g03235_pub_bigall_karatsubaSqrThreshold)] }
def FnZeroSignsSaid : Prop := fnZeroSignsRow.holds Tryz.pinned (OpenSpec.ofChange fnZeroSignsSpec)

/-- ITS FALSE NEIGHBOUR: 'it returns false'. Refute it at one input. -/
def fnZeroSignsWrong : ChangeSpec := { name := "fnZeroSigns", vars := ["loop.example/pub-g03235/pub/bigall.basicSqrThreshold", "loop.example/pub-g03235/pub/bigall.karatsubaSqrThreshold", "loop.example/pub-g03235/pub/bigall.karatsubaThreshold", "loop.example/pub-g03235/pub/bigall.divRecursiveThreshold"], fn := fun _ => fun
  | [d1, d2, d3, d4, d5, g1, g2, g3, g4] => { results := [.lit (.bool false)], args := [d1, d2, d3, d4, d5], vars := [g1, g2, g3, g4] }
  | _ => none }
def FnZeroSignsWrongFalsely : Prop := fnZeroSignsRow.holds Tryz.pinned (OpenSpec.ofChange fnZeroSignsWrong)

/-- 'laws.FnInto': WHATEVER THE INPUT: true; the input reads as it did. -/
def fnIntoSpec : ChangeSpec := { name := "fnInto", vars := ["loop.example/pub-g03235/pub/bigall.basicSqrThreshold", "loop.example/pub-g03235/pub/bigall.karatsubaSqrThreshold", "loop.example/pub-g03235/pub/bigall.karatsubaThreshold", "loop.example/pub-g03235/pub/bigall.divRecursiveThreshold"], fn := fun _ => fun
  | [d1, d2, d3, d4, g1, g2, g3, g4] => { results := [.lit (.bool true)], args := [d1, d2, d3, d4], vars := [g1, g2, g3, g4] }
  | _ => none }
def fnIntoRow : OpenClaim := { program := "ytgclooabjilniaagreatdoor", sum := "e0e1cfc3ee1b21e9e19a46556bd889ce91eacb6f8f729d9b9ce870f30a9472b3", func := "loop.example/pub-g03235/laws.FnInto", spec := "fnInto", inPlace := ["math/bits.Add64", "math/bits.Sub64"], recurses := true, named := ["math/bits.deBruijn32tab", "math/bits.deBruijn64tab", "loop.example/pub-g03235/pub/bigall.basicSqrThreshold", "loop.example/pub-g03235/pub/bigall.karatsubaSqrThreshold", "loop.example/pub-g03235/pub/bigall.karatsubaThreshold", "loop.example/pub-g03235/pub/bigall.divRecursiveThreshold"], apart := false, laid := [("math/bits.deBruijn32tab", laid_math_bits_deBruijn32tab), ("math/bits.deBruijn64tab", laid_math_bits_deBruijn64tab), ("loop.example/pub-g03235/pub/bigall.divRecursiveThreshold", laid_loop_example_pub_g03235_pub_bigall_divRecursiveThreshold), ("loop.example/pub-g03235/pub/bigall.karatsubaThreshold", laid_loop_example_pub_g03235_pub_bigall_karatsubaThreshold), ("loop.example/pub-g03235/pub/bigall.basicSqrThreshold", laid_loop_example_pub_g03235_pub_bigall_basicSqrThreshold), ("loop.example/pub-g03235/pub/bigall.karatsubaSqrThreshold", laid_loop_example_pub_g03235_pub_bigall_karatsubaSqrThreshold)] }
def FnIntoSaid : Prop := fnIntoRow.holds Tryz.pinned (OpenSpec.ofChange fnIntoSpec)

/-- ITS FALSE NEIGHBOUR: 'it returns false'. Refute it at one input. -/
def fnIntoWrong : ChangeSpec := { name := "fnInto", vars := ["loop.example/pub-g03235/pub/bigall.basicSqrThreshold", "loop.example/pub-g03235/pub/bigall.karatsubaSqrThreshold", "loop.example/pub-g03235/pub/bigall.karatsubaThreshold", "loop.example/pub-g03235/pub/bigall.divRecursiveThreshold"], fn := fun _ => fun
  | [d1, d2, d3, d4, g1, g2, g3, g4] => { results := [.lit (.bool false)], args := [d1, d2, d3, d4], vars := [g1, g2, g3, g4] }
  | _ => none }
def FnIntoWrongFalsely : Prop := fnIntoRow.holds Tryz.pinned (OpenSpec.ofChange fnIntoWrong)

/- THE SECOND FORM. 'bulk': how many values and letters a reading holds, each counted each time it is reached (what is shared counts as often as it is met; a slice's spare places count too). A statement '..UptoSaid' is the law's where the arguments, and the package variables that the reading takes, are together of bulk at most 1048576: NARROWER than '..Said'. Prove '..Said' where nothing that the law and all that it calls make is longer than what came in: it says more and counts as full. Else prove '..UptoSaid'. A law counts once. -/
mutual
def uptoBulk {H : Type} : DataW H → Nat
  | .lit (.string bytes) => bytes.length + 1
  | .lit _ => 1
  | .nil => 1
  | .ptr d => uptoBulk d + 1
  | .slice elems spare => uptoBulkAll elems + uptoBulkAll spare + 1
  | .agg parts => uptoBulkAll parts + 1
  | .iface _ d => uptoBulk d + 1
  | .map entries => uptoBulkEntries entries + 1
  | .held _ => 1
def uptoBulkAll {H : Type} : List (DataW H) → Nat
  | [] => 0
  | d :: r => uptoBulk d + uptoBulkAll r
def uptoBulkEntries {H : Type} : List (Lit × DataW H) → Nat
  | [] => 0
  | x :: r => uptoBulkEntry x + uptoBulkEntries r
def uptoBulkEntry {H : Type} : Lit × DataW H → Nat
  | (.string bytes, d) => bytes.length + uptoBulk d + 1
  | (_, d) => uptoBulk d + 1
 end
def uptoSmall : (H : Type) → List (DataW H) → Bool := fun _ ds => decide (uptoBulkAll ds ≤ 1048576)
def OpenSpec.upto (s : _root_.Go.ChangeSpec) : _root_.Go.OpenSpec := { _root_.Go.OpenSpec.ofChange s with cond := some uptoSmall }

/-- 'laws.FnMulInt', WHERE WHAT IT READS IS OF BULK AT MOST 1048576: true; the input reads as it did. -/
def fnMulIntUptoRow : OpenClaim := { program := "ytgclooabjilniaagreatdoor", sum := "e0e1cfc3ee1b21e9e19a46556bd889ce91eacb6f8f729d9b9ce870f30a9472b3", func := "loop.example/pub-g03235/laws.FnMulInt", spec := "fnMulInt", inPlace := ["math/bits.Add64", "math/bits.Sub64"], recurses := true, named := ["loop.example/pub-g03235/pub/bigall.basicSqrThreshold", "loop.example/pub-g03235/pub/bigall.karatsubaSqrThreshold", "loop.example/pub-g03235/pub/bigall.karatsubaThreshold", "math/bits.deBruijn32tab", "math/bits.deBruijn64tab"], apart := false, laid := [("math/bits.deBruijn32tab", laid_math_bits_deBruijn32tab), ("math/bits.deBruijn64tab", laid_math_bits_deBruijn64tab), ("loop.example/pub-g03235/pub/bigall.karatsubaThreshold", laid_loop_example_pub_g03235_pub_bigall_karatsubaThreshold), ("loop.example/pub-g03235/pub/bigall.basicSqrThreshold", laid_loop_example_pub_g03235_pub_bigall_basicSqrThreshold), ("loop.example/pub-g03235/pub/bigall.karatsubaSqrThreshold", laid_loop_example_pub_g03235_pub_bigall_karatsubaSqrThreshold)], narrowed := true }
def FnMulIntUptoSaid : Prop := fnMulIntUptoRow.holds Tryz.pinned (OpenSpec.upto fnMulIntSpec)

/-- 'laws.FnMul', WHERE WHAT IT READS IS OF BULK AT MOST 1048576: true; the input reads as it did. -/
def fnMulUptoRow : OpenClaim := { program := "ytgclooabjilniaagreatdoor", sum := "e0e1cfc3ee1b21e9e19a46556bd889ce91eacb6f8f729d9b9ce870f30a9472b3", func := "loop.example/pub-g03235/laws.FnMul", spec := "fnMul", inPlace := ["math/bits.Add64", "math/bits.Sub64"], recurses := true, named := ["loop.example/pub-g03235/pub/bigall.basicSqrThreshold", "loop.example/pub-g03235/pub/bigall.karatsubaSqrThreshold", "loop.example/pub-g03235/pub/bigall.karatsubaThreshold", "math/bits.deBruijn32tab", "math/bits.deBruijn64tab"], apart := false, laid := [("math/bits.deBruijn32tab", laid_math_bits_deBruijn32tab), ("math/bits.deBruijn64tab", laid_math_bits_deBruijn64tab), ("loop.example/pub-g03235/pub/bigall.karatsubaThreshold", laid_loop_example_pub_g03235_pub_bigall_karatsubaThreshold), ("loop.example/pub-g03235/pub/bigall.basicSqrThreshold", laid_loop_example_pub_g03235_pub_bigall_basicSqrThreshold), ("loop.example/pub-g03235/pub/bigall.karatsubaSqrThreshold", laid_loop_example_pub_g03235_pub_bigall_karatsubaSqrThreshold)], narrowed := true }
def FnMulUptoSaid : Prop := fnMulUptoRow.holds Tryz.pinned (OpenSpec.upto fnMulSpec)

/-- 'laws.FnSterbenz', WHERE WHAT IT READS IS OF BULK AT MOST 1048576: true; the input reads as it did. -/
def fnSterbenzUptoRow : OpenClaim := { program := "ytgclooabjilniaagreatdoor", sum := "e0e1cfc3ee1b21e9e19a46556bd889ce91eacb6f8f729d9b9ce870f30a9472b3", func := "loop.example/pub-g03235/laws.FnSterbenz", spec := "fnSterbenz", inPlace := ["math/bits.Add64", "math/bits.Sub64"], recurses := true, named := ["math/bits.deBruijn32tab", "math/bits.deBruijn64tab"], apart := false, laid := [("math/bits.deBruijn32tab", laid_math_bits_deBruijn32tab), ("math/bits.deBruijn64tab", laid_math_bits_deBruijn64tab)], narrowed := true }
def FnSterbenzUptoSaid : Prop := fnSterbenzUptoRow.holds Tryz.pinned (OpenSpec.upto fnSterbenzSpec)

/-- 'laws.FnTwoSum', WHERE WHAT IT READS IS OF BULK AT MOST 1048576: true; the input reads as it did. -/
def fnTwoSumUptoRow : OpenClaim := { program := "ytgclooabjilniaagreatdoor", sum := "e0e1cfc3ee1b21e9e19a46556bd889ce91eacb6f8f729d9b9ce870f30a9472b3", func := "loop.example/pub-g03235/laws.FnTwoSum", spec := "fnTwoSum", inPlace := ["math/bits.Add64", "math/bits.Sub64"], recurses := true, named := ["math/bits.deBruijn32tab", "math/bits.deBruijn64tab"], apart := false, laid := [("math/bits.deBruijn32tab", laid_math_bits_deBruijn32tab), ("math/bits.deBruijn64tab", laid_math_bits_deBruijn64tab)], narrowed := true }
def FnTwoSumUptoSaid : Prop := fnTwoSumUptoRow.holds Tryz.pinned (OpenSpec.upto fnTwoSumSpec)

/-- 'laws.FnQuo', WHERE WHAT IT READS IS OF BULK AT MOST 1048576: true; the input reads as it did. -/
def fnQuoUptoRow : OpenClaim := { program := "ytgclooabjilniaagreatdoor", sum := "e0e1cfc3ee1b21e9e19a46556bd889ce91eacb6f8f729d9b9ce870f30a9472b3", func := "loop.example/pub-g03235/laws.FnQuo", spec := "fnQuo", inPlace := ["math/bits.Add64", "math/bits.Sub64"], recurses := true, named := ["loop.example/pub-g03235/pub/bigall.divRecursiveThreshold", "loop.example/pub-g03235/pub/bigall.karatsubaThreshold", "loop.example/pub-g03235/pub/bigall.basicSqrThreshold", "loop.example/pub-g03235/pub/bigall.karatsubaSqrThreshold", "math/bits.deBruijn32tab", "math/bits.deBruijn64tab"], apart := false, laid := [("math/bits.deBruijn32tab", laid_math_bits_deBruijn32tab), ("math/bits.deBruijn64tab", laid_math_bits_deBruijn64tab), ("loop.example/pub-g03235/pub/bigall.divRecursiveThreshold", laid_loop_example_pub_g03235_pub_bigall_divRecursiveThreshold), ("loop.example/pub-g03235/pub/bigall.karatsubaThreshold", laid_loop_example_pub_g03235_pub_bigall_karatsubaThreshold), ("loop.example/pub-g03235/pub/bigall.basicSqrThreshold", laid_loop_example_pub_g03235_pub_bigall_basicSqrThreshold), ("loop.example/pub-g03235/pub/bigall.karatsubaSqrThreshold", laid_loop_example_pub_g03235_pub_bigall_karatsubaSqrThreshold)], narrowed := true }
def FnQuoUptoSaid : Prop := fnQuoUptoRow.holds Tryz.pinned (OpenSpec.upto fnQuoSpec)

/-- 'laws.FnCommute', WHERE WHAT IT READS IS OF BULK AT MOST 1048576: true; the input reads as it did. -/
def fnCommuteUptoRow : OpenClaim := { program := "ytgclooabjilniaagreatdoor", sum := "e0e1cfc3ee1b21e9e19a46556bd889ce91eacb6f8f729d9b9ce870f30a9472b3", func := "loop.example/pub-g03235/laws.FnCommute", spec := "fnCommute", inPlace := ["math/bits.Add64", "math/bits.Sub64"], recurses := true, named := ["math/bits.deBruijn32tab", "math/bits.deBruijn64tab", "loop.example/pub-g03235/pub/bigall.basicSqrThreshold", "loop.example/pub-g03235/pub/bigall.karatsubaSqrThreshold", "loop.example/pub-g03235/pub/bigall.karatsubaThreshold", "loop.example/pub-g03235/pub/bigall.divRecursiveThreshold"], apart := false, laid := [("math/bits.deBruijn32tab", laid_math_bits_deBruijn32tab), ("math/bits.deBruijn64tab", laid_math_bits_deBruijn64tab), ("loop.example/pub-g03235/pub/bigall.divRecursiveThreshold", laid_loop_example_pub_g03235_pub_bigall_divRecursiveThreshold), ("loop.example/pub-g03235/pub/bigall.karatsubaThreshold", laid_loop_example_pub_g03235_pub_bigall_karatsubaThreshold), ("loop.example/pub-g03235/pub/bigall.basicSqrThreshold", laid_loop_example_pub_g03235_pub_bigall_basicSqrThreshold), ("loop.example/pub-g03235/pub/bigall.karatsubaSqrThreshold", laid_loop_example_pub_g03235_pub_bigall_karatsubaSqrThreshold)], narrowed := true }
def FnCommuteUptoSaid : Prop := fnCommuteUptoRow.holds Tryz.pinned (OpenSpec.upto fnCommuteSpec)

/-- 'laws.FnInfinite', WHERE WHAT IT READS IS OF BULK AT MOST 1048576: true; the input reads as it did. -/
def fnInfiniteUptoRow : OpenClaim := { program := "ytgclooabjilniaagreatdoor", sum := "e0e1cfc3ee1b21e9e19a46556bd889ce91eacb6f8f729d9b9ce870f30a9472b3", func := "loop.example/pub-g03235/laws.FnInfinite", spec := "fnInfinite", inPlace := ["math/bits.Add64", "math/bits.Sub64"], recurses := true, named := ["math/bits.deBruijn32tab", "math/bits.deBruijn64tab", "loop.example/pub-g03235/pub/bigall.basicSqrThreshold", "loop.example/pub-g03235/pub/bigall.karatsubaSqrThreshold", "loop.example/pub-g03235/pub/bigall.karatsubaThreshold", "loop.example/pub-g03235/pub/bigall.divRecursiveThreshold"], apart := false, laid := [("math/bits.deBruijn32tab", laid_math_bits_deBruijn32tab), ("math/bits.deBruijn64tab", laid_math_bits_deBruijn64tab), ("loop.example/pub-g03235/pub/bigall.divRecursiveThreshold", laid_loop_example_pub_g03235_pub_bigall_divRecursiveThreshold), ("loop.example/pub-g03235/pub/bigall.karatsubaThreshold", laid_loop_example_pub_g03235_pub_bigall_karatsubaThreshold), ("loop.example/pub-g03235/pub/bigall.basicSqrThreshold", laid_loop_example_pub_g03235_pub_bigall_basicSqrThreshold), ("loop.example/pub-g03235/pub/bigall.karatsubaSqrThreshold", laid_loop_example_pub_g03235_pub_bigall_karatsubaSqrThreshold)], narrowed := true }
def FnInfiniteUptoSaid : Prop := fnInfiniteUptoRow.holds Tryz.pinned (OpenSpec.upto fnInfiniteSpec)

/-- 'laws.FnScale', WHERE WHAT IT READS IS OF BULK AT MOST 1048576: true; the input reads as it did. -/
def fnScaleUptoRow : OpenClaim := { program := "ytgclooabjilniaagreatdoor", sum := "e0e1cfc3ee1b21e9e19a46556bd889ce91eacb6f8f729d9b9ce870f30a9472b3", func := "loop.example/pub-g03235/laws.FnScale", spec := "fnScale", inPlace := ["math/bits.Add64", "math/bits.Sub64"], recurses := true, named := ["math/bits.deBruijn32tab", "math/bits.deBruijn64tab", "loop.example/pub-g03235/pub/bigall.basicSqrThreshold", "loop.example/pub-g03235/pub/bigall.karatsubaSqrThreshold", "loop.example/pub-g03235/pub/bigall.karatsubaThreshold", "loop.example/pub-g03235/pub/bigall.divRecursiveThreshold"], apart := false, laid := [("math/bits.deBruijn32tab", laid_math_bits_deBruijn32tab), ("math/bits.deBruijn64tab", laid_math_bits_deBruijn64tab), ("loop.example/pub-g03235/pub/bigall.divRecursiveThreshold", laid_loop_example_pub_g03235_pub_bigall_divRecursiveThreshold), ("loop.example/pub-g03235/pub/bigall.karatsubaThreshold", laid_loop_example_pub_g03235_pub_bigall_karatsubaThreshold), ("loop.example/pub-g03235/pub/bigall.basicSqrThreshold", laid_loop_example_pub_g03235_pub_bigall_basicSqrThreshold), ("loop.example/pub-g03235/pub/bigall.karatsubaSqrThreshold", laid_loop_example_pub_g03235_pub_bigall_karatsubaSqrThreshold)], narrowed := true }
def FnScaleUptoSaid : Prop := fnScaleUptoRow.holds Tryz.pinned (OpenSpec.upto fnScaleSpec)

/-- 'laws.FnZeroSigns', WHERE WHAT IT READS IS OF BULK AT MOST 1048576: true; the input reads as it did. -/
def fnZeroSignsUptoRow : OpenClaim := { program := "ytgclooabjilniaagreatdoor", sum := "e0e1cfc3ee1b21e9e19a46556bd889ce91eacb6f8f729d9b9ce870f30a9472b3", func := "loop.example/pub-g03235/laws.FnZeroSigns", spec := "fnZeroSigns", inPlace := ["math/bits.Add64", "math/bits.Sub64"], recurses := true, named := ["math/bits.deBruijn32tab", "math/bits.deBruijn64tab", "loop.example/pub-g03235/pub/bigall.basicSqrThreshold", "loop.example/pub-g03235/pub/bigall.karatsubaSqrThreshold", "loop.example/pub-g03235/pub/bigall.karatsubaThreshold", "loop.example/pub-g03235/pub/bigall.divRecursiveThreshold"], apart := false, laid := [("math/bits.deBruijn32tab", laid_math_bits_deBruijn32tab), ("math/bits.deBruijn64tab", laid_math_bits_deBruijn64tab), ("loop.example/pub-g03235/pub/bigall.divRecursiveThreshold", laid_loop_example_pub_g03235_pub_bigall_divRecursiveThreshold), ("loop.example/pub-g03235/pub/bigall.karatsubaThreshold", laid_loop_example_pub_g03235_pub_bigall_karatsubaThreshold), ("loop.example/pub-g03235/pub/bigall.basicSqrThreshold", laid_loop_example_pub_g03235_pub_bigall_basicSqrThreshold), ("loop.example/pub-g03235/pub/bigall.karatsubaSqrThreshold", laid_loop_example_pub_g03235_pub_bigall_karatsubaSqrThreshold)], narrowed := true }
def FnZeroSignsUptoSaid : Prop := fnZeroSignsUptoRow.holds Tryz.pinned (OpenSpec.upto fnZeroSignsSpec)

/-- 'laws.FnInto', WHERE WHAT IT READS IS OF BULK AT MOST 1048576: true; the input reads as it did. -/
def fnIntoUptoRow : OpenClaim := { program := "ytgclooabjilniaagreatdoor", sum := "e0e1cfc3ee1b21e9e19a46556bd889ce91eacb6f8f729d9b9ce870f30a9472b3", func := "loop.example/pub-g03235/laws.FnInto", spec := "fnInto", inPlace := ["math/bits.Add64", "math/bits.Sub64"], recurses := true, named := ["math/bits.deBruijn32tab", "math/bits.deBruijn64tab", "loop.example/pub-g03235/pub/bigall.basicSqrThreshold", "loop.example/pub-g03235/pub/bigall.karatsubaSqrThreshold", "loop.example/pub-g03235/pub/bigall.karatsubaThreshold", "loop.example/pub-g03235/pub/bigall.divRecursiveThreshold"], apart := false, laid := [("math/bits.deBruijn32tab", laid_math_bits_deBruijn32tab), ("math/bits.deBruijn64tab", laid_math_bits_deBruijn64tab), ("loop.example/pub-g03235/pub/bigall.divRecursiveThreshold", laid_loop_example_pub_g03235_pub_bigall_divRecursiveThreshold), ("loop.example/pub-g03235/pub/bigall.karatsubaThreshold", laid_loop_example_pub_g03235_pub_bigall_karatsubaThreshold), ("loop.example/pub-g03235/pub/bigall.basicSqrThreshold", laid_loop_example_pub_g03235_pub_bigall_basicSqrThreshold), ("loop.example/pub-g03235/pub/bigall.karatsubaSqrThreshold", laid_loop_example_pub_g03235_pub_bigall_karatsubaSqrThreshold)], narrowed := true }
def FnIntoUptoSaid : Prop := fnIntoUptoRow.holds Tryz.pinned (OpenSpec.upto fnIntoSpec)

end Rows
end Go.Proofs.YtgclooabjilniaaGreatDoor
