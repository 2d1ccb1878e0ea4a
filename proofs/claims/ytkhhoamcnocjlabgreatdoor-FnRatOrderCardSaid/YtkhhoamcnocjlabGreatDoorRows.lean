/-
  NARROWER THAN 'FOR EVERY INPUT', by the rows' own cells (each row's printed sentence says how): FnRatSub: laid · FnRatMul: laid · FnRatQuo: laid · FnRatSetFloat64: laid · FnRatOrder: laid · FnQuo: laid.
  DERIVED. THE GIVEN ROWS OF THIS SEAT. 6 by the template 'for every input the law returns true; each argument reads behind the call as it read before'; 0 by the template 'total and deterministic' (their statements: YtkhhoamcnocjlabGreatDoorTotals.lean).
  GIVEN WITH THE SEED: the statements are not yours to turn. If you find one false, say at which input.
  Laid BY PROGRAM, IN A SANDBOX (cutbox-rows.mjs): the forced cells as the released guide's own fill.sh prints them over the translation 9c69b33d7f9b924d… (all of the seat's roots in one cut). By AI agents, Wed Nov 11 2026. No macro, syntax, notation, axiom, sorry.
-/
import Derived.Test.YtkhhoamcnocjlabGreatDoorChecked
import GoSem.Claim
import GoSem.ClaimJoined
import GoSem.ClaimMapViews
import Derived.JoinedTies
import Derived.KernelRfl
namespace Go.Proofs.YtkhhoamcnocjlabGreatDoor
/- THE CELL 'sum', in the pinned program and in every row, IS THE sha256 OF THE DUMP (.gsa) THAT YtkhhoamcnocjlabGreatDoorProg.lean LOADS. Nothing in Lean hashes anything: it is a label: what it is worth is what the hold of that sum in a sandbox is worth. -/
noncomputable def Tryz.pinned : Pinned := { name := "ytkhhoamcnocjlabgreatdoor", sum := "9c69b33d7f9b924d533266b25df68967363bc5088218e7f62c91ed57724a8a4a", checked := Tryz.checked }
namespace Rows
def none {H : Type} : Left H := { results := [], args := [] }

/- WHAT THE LISTED PACKAGE-LEVEL VARIABLES READ AS WHEN THE CALL BEGINS. Each datum BY PROGRAM (the guide's laid-datum.mjs) off the statement by which the dump's own 'gosem.cut.vars' lays the variable. In a bare row this is a premise. The card (YtkhhoamcnocjlabGreatDoorCards.lean) ties it to the program's text. -/
def laid_loop_example_pub_g03235_pub_bigall_divRecursiveThreshold {H : Type} : DataW H := .lit (.int .i64 40)
def laid_loop_example_pub_g03235_pub_bigall_karatsubaThreshold {H : Type} : DataW H := .lit (.int .i64 40)
def laid_loop_example_pub_g03235_pub_bigall_basicSqrThreshold {H : Type} : DataW H := .lit (.int .i64 12)
def laid_loop_example_pub_g03235_pub_bigall_karatsubaSqrThreshold {H : Type} : DataW H := .lit (.int .i64 80)
def laid_math_bits_deBruijn32tab {H : Type} : DataW H := .agg [.lit (.int .u8 0), .lit (.int .u8 1), .lit (.int .u8 28), .lit (.int .u8 2), .lit (.int .u8 29), .lit (.int .u8 14), .lit (.int .u8 24), .lit (.int .u8 3), .lit (.int .u8 30), .lit (.int .u8 22), .lit (.int .u8 20), .lit (.int .u8 15), .lit (.int .u8 25), .lit (.int .u8 17), .lit (.int .u8 4), .lit (.int .u8 8), .lit (.int .u8 31), .lit (.int .u8 27), .lit (.int .u8 13), .lit (.int .u8 23), .lit (.int .u8 21), .lit (.int .u8 19), .lit (.int .u8 16), .lit (.int .u8 7), .lit (.int .u8 26), .lit (.int .u8 12), .lit (.int .u8 18), .lit (.int .u8 6), .lit (.int .u8 11), .lit (.int .u8 5), .lit (.int .u8 10), .lit (.int .u8 9)]
def laid_math_bits_deBruijn64tab {H : Type} : DataW H := .agg [.lit (.int .u8 0), .lit (.int .u8 1), .lit (.int .u8 56), .lit (.int .u8 2), .lit (.int .u8 57), .lit (.int .u8 49), .lit (.int .u8 28), .lit (.int .u8 3), .lit (.int .u8 61), .lit (.int .u8 58), .lit (.int .u8 42), .lit (.int .u8 50), .lit (.int .u8 38), .lit (.int .u8 29), .lit (.int .u8 17), .lit (.int .u8 4), .lit (.int .u8 62), .lit (.int .u8 47), .lit (.int .u8 59), .lit (.int .u8 36), .lit (.int .u8 45), .lit (.int .u8 43), .lit (.int .u8 51), .lit (.int .u8 22), .lit (.int .u8 53), .lit (.int .u8 39), .lit (.int .u8 33), .lit (.int .u8 30), .lit (.int .u8 24), .lit (.int .u8 18), .lit (.int .u8 12), .lit (.int .u8 5), .lit (.int .u8 63), .lit (.int .u8 55), .lit (.int .u8 48), .lit (.int .u8 27), .lit (.int .u8 60), .lit (.int .u8 41), .lit (.int .u8 37), .lit (.int .u8 16), .lit (.int .u8 46), .lit (.int .u8 35), .lit (.int .u8 44), .lit (.int .u8 21), .lit (.int .u8 52), .lit (.int .u8 32), .lit (.int .u8 23), .lit (.int .u8 11), .lit (.int .u8 54), .lit (.int .u8 26), .lit (.int .u8 40), .lit (.int .u8 15), .lit (.int .u8 34), .lit (.int .u8 20), .lit (.int .u8 31), .lit (.int .u8 10), .lit (.int .u8 25), .lit (.int .u8 14), .lit (.int .u8 19), .lit (.int .u8 9), .lit (.int .u8 13), .lit (.int .u8 8), .lit (.int .u8 7), .lit (.int .u8 6)]

/-- 'laws.FnRatSub': WHATEVER THE INPUT: true; the input reads as it did. -/
def fnRatSubSpec : ChangeSpec := { name := "fnRatSub", vars := ["loop.example/pub-g03235/pub/bigall.karatsubaThreshold", "loop.example/pub-g03235/pub/bigall.basicSqrThreshold", "loop.example/pub-g03235/pub/bigall.karatsubaSqrThreshold", "loop.example/pub-g03235/pub/bigall.divRecursiveThreshold"], fn := fun _ => fun
  | [d1, d2, g1, g2, g3, g4] => { results := [.lit (.bool true)], args := [d1, d2], vars := [g1, g2, g3, g4] }
  | _ => none }
def fnRatSubRow : OpenClaim := { program := "ytkhhoamcnocjlabgreatdoor", sum := "9c69b33d7f9b924d533266b25df68967363bc5088218e7f62c91ed57724a8a4a", func := "loop.example/pub-g03235/laws.FnRatSub", spec := "fnRatSub", inPlace := ["math/bits.Add64", "math/bits.Sub64"], recurses := true, named := ["loop.example/pub-g03235/pub/bigall.karatsubaThreshold", "loop.example/pub-g03235/pub/bigall.basicSqrThreshold", "loop.example/pub-g03235/pub/bigall.karatsubaSqrThreshold", "loop.example/pub-g03235/pub/bigall.divRecursiveThreshold"], apart := false, laid := [("loop.example/pub-g03235/pub/bigall.divRecursiveThreshold", laid_loop_example_pub_g03235_pub_bigall_divRecursiveThreshold), ("loop.example/pub-g03235/pub/bigall.karatsubaThreshold", laid_loop_example_pub_g03235_pub_bigall_karatsubaThreshold), ("loop.example/pub-g03235/pub/bigall.basicSqrThreshold", laid_loop_example_pub_g03235_pub_bigall_basicSqrThreshold), ("loop.example/pub-g03235/pub/bigall.karatsubaSqrThreshold", laid_loop_example_pub_g03235_pub_bigall_karatsubaSqrThreshold)] }
def FnRatSubSaid : Prop := fnRatSubRow.holds Tryz.pinned (OpenSpec.ofChange fnRatSubSpec)

/-- ITS FALSE NEIGHBOUR: 'it returns false'. Refute it at one input. -/
def fnRatSubWrong : ChangeSpec := { name := "fnRatSub", vars := ["loop.example/pub-g03235/pub/bigall.karatsubaThreshold", "loop.example/pub-g03235/pub/bigall.basicSqrThreshold", "loop.example/pub-g03235/pub/bigall.karatsubaSqrThreshold", "loop.example/pub-g03235/pub/bigall.divRecursiveThreshold"], fn := fun _ => fun
  | [d1, d2, g1, g2, g3, g4] => { results := [.lit (.bool false)], args := [d1, d2], vars := [g1, g2, g3, g4] }
  | _ => none }
def FnRatSubWrongFalsely : Prop := fnRatSubRow.holds Tryz.pinned (OpenSpec.ofChange fnRatSubWrong)

/-- 'laws.FnRatMul': WHATEVER THE INPUT: true; the input reads as it did. -/
def fnRatMulSpec : ChangeSpec := { name := "fnRatMul", vars := ["loop.example/pub-g03235/pub/bigall.basicSqrThreshold", "loop.example/pub-g03235/pub/bigall.karatsubaSqrThreshold", "loop.example/pub-g03235/pub/bigall.karatsubaThreshold", "loop.example/pub-g03235/pub/bigall.divRecursiveThreshold"], fn := fun _ => fun
  | [d1, d2, g1, g2, g3, g4] => { results := [.lit (.bool true)], args := [d1, d2], vars := [g1, g2, g3, g4] }
  | _ => none }
def fnRatMulRow : OpenClaim := { program := "ytkhhoamcnocjlabgreatdoor", sum := "9c69b33d7f9b924d533266b25df68967363bc5088218e7f62c91ed57724a8a4a", func := "loop.example/pub-g03235/laws.FnRatMul", spec := "fnRatMul", inPlace := ["math/bits.Add64", "math/bits.Sub64"], recurses := true, named := ["loop.example/pub-g03235/pub/bigall.basicSqrThreshold", "loop.example/pub-g03235/pub/bigall.karatsubaSqrThreshold", "loop.example/pub-g03235/pub/bigall.karatsubaThreshold", "loop.example/pub-g03235/pub/bigall.divRecursiveThreshold"], apart := false, laid := [("loop.example/pub-g03235/pub/bigall.divRecursiveThreshold", laid_loop_example_pub_g03235_pub_bigall_divRecursiveThreshold), ("loop.example/pub-g03235/pub/bigall.karatsubaThreshold", laid_loop_example_pub_g03235_pub_bigall_karatsubaThreshold), ("loop.example/pub-g03235/pub/bigall.basicSqrThreshold", laid_loop_example_pub_g03235_pub_bigall_basicSqrThreshold), ("loop.example/pub-g03235/pub/bigall.karatsubaSqrThreshold", laid_loop_example_pub_g03235_pub_bigall_karatsubaSqrThreshold)] }
def FnRatMulSaid : Prop := fnRatMulRow.holds Tryz.pinned (OpenSpec.ofChange fnRatMulSpec)

/-- ITS FALSE NEIGHBOUR: 'it returns false'. Refute it at one input. -/
def fnRatMulWrong : ChangeSpec := { name := "fnRatMul", vars := ["loop.example/pub-g03235/pub/bigall.basicSqrThreshold", "loop.example/pub-g03235/pub/bigall.karatsubaSqrThreshold", "loop.example/pub-g03235/pub/bigall.karatsubaThreshold", "loop.example/pub-g03235/pub/bigall.divRecursiveThreshold"], fn := fun _ => fun
  | [d1, d2, g1, g2, g3, g4] => { results := [.lit (.bool false)], args := [d1, d2], vars := [g1, g2, g3, g4] }
  | _ => none }
def FnRatMulWrongFalsely : Prop := fnRatMulRow.holds Tryz.pinned (OpenSpec.ofChange fnRatMulWrong)

/-- 'laws.FnRatQuo': WHATEVER THE INPUT: true; the input reads as it did. -/
def fnRatQuoSpec : ChangeSpec := { name := "fnRatQuo", vars := ["loop.example/pub-g03235/pub/bigall.karatsubaThreshold", "loop.example/pub-g03235/pub/bigall.basicSqrThreshold", "loop.example/pub-g03235/pub/bigall.karatsubaSqrThreshold", "loop.example/pub-g03235/pub/bigall.divRecursiveThreshold"], fn := fun _ => fun
  | [d1, d2, g1, g2, g3, g4] => { results := [.lit (.bool true)], args := [d1, d2], vars := [g1, g2, g3, g4] }
  | _ => none }
def fnRatQuoRow : OpenClaim := { program := "ytkhhoamcnocjlabgreatdoor", sum := "9c69b33d7f9b924d533266b25df68967363bc5088218e7f62c91ed57724a8a4a", func := "loop.example/pub-g03235/laws.FnRatQuo", spec := "fnRatQuo", inPlace := ["math/bits.Add64", "math/bits.Sub64"], unfollowed := true, recurses := true, named := ["loop.example/pub-g03235/pub/bigall.karatsubaThreshold", "loop.example/pub-g03235/pub/bigall.basicSqrThreshold", "loop.example/pub-g03235/pub/bigall.karatsubaSqrThreshold", "loop.example/pub-g03235/pub/bigall.divRecursiveThreshold"], apart := false, laid := [("loop.example/pub-g03235/pub/bigall.divRecursiveThreshold", laid_loop_example_pub_g03235_pub_bigall_divRecursiveThreshold), ("loop.example/pub-g03235/pub/bigall.karatsubaThreshold", laid_loop_example_pub_g03235_pub_bigall_karatsubaThreshold), ("loop.example/pub-g03235/pub/bigall.basicSqrThreshold", laid_loop_example_pub_g03235_pub_bigall_basicSqrThreshold), ("loop.example/pub-g03235/pub/bigall.karatsubaSqrThreshold", laid_loop_example_pub_g03235_pub_bigall_karatsubaSqrThreshold)] }
def FnRatQuoSaid : Prop := fnRatQuoRow.holds Tryz.pinned (OpenSpec.ofChange fnRatQuoSpec)

/-- ITS FALSE NEIGHBOUR: 'it returns false'. Refute it at one input. -/
def fnRatQuoWrong : ChangeSpec := { name := "fnRatQuo", vars := ["loop.example/pub-g03235/pub/bigall.karatsubaThreshold", "loop.example/pub-g03235/pub/bigall.basicSqrThreshold", "loop.example/pub-g03235/pub/bigall.karatsubaSqrThreshold", "loop.example/pub-g03235/pub/bigall.divRecursiveThreshold"], fn := fun _ => fun
  | [d1, d2, g1, g2, g3, g4] => { results := [.lit (.bool false)], args := [d1, d2], vars := [g1, g2, g3, g4] }
  | _ => none }
def FnRatQuoWrongFalsely : Prop := fnRatQuoRow.holds Tryz.pinned (OpenSpec.ofChange fnRatQuoWrong)

/-- 'laws.FnRatSetFloat64': WHATEVER THE INPUT: true; the input reads as it did. -/
def fnRatSetFloat64Spec : ChangeSpec := { name := "fnRatSetFloat64", vars := ["loop.example/pub-g03235/pub/bigall.divRecursiveThreshold", "loop.example/pub-g03235/pub/bigall.karatsubaThreshold", "loop.example/pub-g03235/pub/bigall.basicSqrThreshold", "loop.example/pub-g03235/pub/bigall.karatsubaSqrThreshold"], fn := fun _ => fun
  | [d, g1, g2, g3, g4] => { results := [.lit (.bool true)], args := [d], vars := [g1, g2, g3, g4] }
  | _ => none }
def fnRatSetFloat64Row : OpenClaim := { program := "ytkhhoamcnocjlabgreatdoor", sum := "9c69b33d7f9b924d533266b25df68967363bc5088218e7f62c91ed57724a8a4a", func := "loop.example/pub-g03235/laws.FnRatSetFloat64", spec := "fnRatSetFloat64", inPlace := ["math.Float64frombits", "math.Float64bits", "math/bits.Add64", "math/bits.Sub64"], recurses := true, named := ["loop.example/pub-g03235/pub/bigall.divRecursiveThreshold", "loop.example/pub-g03235/pub/bigall.karatsubaThreshold", "loop.example/pub-g03235/pub/bigall.basicSqrThreshold", "loop.example/pub-g03235/pub/bigall.karatsubaSqrThreshold"], apart := false, laid := [("loop.example/pub-g03235/pub/bigall.divRecursiveThreshold", laid_loop_example_pub_g03235_pub_bigall_divRecursiveThreshold), ("loop.example/pub-g03235/pub/bigall.karatsubaThreshold", laid_loop_example_pub_g03235_pub_bigall_karatsubaThreshold), ("loop.example/pub-g03235/pub/bigall.basicSqrThreshold", laid_loop_example_pub_g03235_pub_bigall_basicSqrThreshold), ("loop.example/pub-g03235/pub/bigall.karatsubaSqrThreshold", laid_loop_example_pub_g03235_pub_bigall_karatsubaSqrThreshold)] }
def FnRatSetFloat64Said : Prop := fnRatSetFloat64Row.holds Tryz.pinned (OpenSpec.ofChange fnRatSetFloat64Spec)

/-- ITS FALSE NEIGHBOUR: 'it returns false'. Refute it at one input. -/
def fnRatSetFloat64Wrong : ChangeSpec := { name := "fnRatSetFloat64", vars := ["loop.example/pub-g03235/pub/bigall.divRecursiveThreshold", "loop.example/pub-g03235/pub/bigall.karatsubaThreshold", "loop.example/pub-g03235/pub/bigall.basicSqrThreshold", "loop.example/pub-g03235/pub/bigall.karatsubaSqrThreshold"], fn := fun _ => fun
  | [d, g1, g2, g3, g4] => { results := [.lit (.bool false)], args := [d], vars := [g1, g2, g3, g4] }
  | _ => none }
def FnRatSetFloat64WrongFalsely : Prop := fnRatSetFloat64Row.holds Tryz.pinned (OpenSpec.ofChange fnRatSetFloat64Wrong)

/-- 'laws.FnRatOrder': WHATEVER THE INPUT: true; the input reads as it did. -/
def fnRatOrderSpec : ChangeSpec := { name := "fnRatOrder", vars := ["loop.example/pub-g03235/pub/bigall.karatsubaThreshold", "loop.example/pub-g03235/pub/bigall.basicSqrThreshold", "loop.example/pub-g03235/pub/bigall.karatsubaSqrThreshold", "loop.example/pub-g03235/pub/bigall.divRecursiveThreshold"], fn := fun _ => fun
  | [d1, d2, g1, g2, g3, g4] => { results := [.lit (.bool true)], args := [d1, d2], vars := [g1, g2, g3, g4] }
  | _ => none }
def fnRatOrderRow : OpenClaim := { program := "ytkhhoamcnocjlabgreatdoor", sum := "9c69b33d7f9b924d533266b25df68967363bc5088218e7f62c91ed57724a8a4a", func := "loop.example/pub-g03235/laws.FnRatOrder", spec := "fnRatOrder", inPlace := ["math/bits.Add64", "math/bits.Sub64"], recurses := true, named := ["loop.example/pub-g03235/pub/bigall.karatsubaThreshold", "loop.example/pub-g03235/pub/bigall.basicSqrThreshold", "loop.example/pub-g03235/pub/bigall.karatsubaSqrThreshold", "loop.example/pub-g03235/pub/bigall.divRecursiveThreshold"], apart := false, laid := [("loop.example/pub-g03235/pub/bigall.divRecursiveThreshold", laid_loop_example_pub_g03235_pub_bigall_divRecursiveThreshold), ("loop.example/pub-g03235/pub/bigall.karatsubaThreshold", laid_loop_example_pub_g03235_pub_bigall_karatsubaThreshold), ("loop.example/pub-g03235/pub/bigall.basicSqrThreshold", laid_loop_example_pub_g03235_pub_bigall_basicSqrThreshold), ("loop.example/pub-g03235/pub/bigall.karatsubaSqrThreshold", laid_loop_example_pub_g03235_pub_bigall_karatsubaSqrThreshold)] }
def FnRatOrderSaid : Prop := fnRatOrderRow.holds Tryz.pinned (OpenSpec.ofChange fnRatOrderSpec)

/-- ITS FALSE NEIGHBOUR: 'it returns false'. Refute it at one input. -/
def fnRatOrderWrong : ChangeSpec := { name := "fnRatOrder", vars := ["loop.example/pub-g03235/pub/bigall.karatsubaThreshold", "loop.example/pub-g03235/pub/bigall.basicSqrThreshold", "loop.example/pub-g03235/pub/bigall.karatsubaSqrThreshold", "loop.example/pub-g03235/pub/bigall.divRecursiveThreshold"], fn := fun _ => fun
  | [d1, d2, g1, g2, g3, g4] => { results := [.lit (.bool false)], args := [d1, d2], vars := [g1, g2, g3, g4] }
  | _ => none }
def FnRatOrderWrongFalsely : Prop := fnRatOrderRow.holds Tryz.pinned (OpenSpec.ofChange fnRatOrderWrong)

/-- 'laws.FnQuo': WHATEVER THE INPUT: true; the input reads as it did. -/
def fnQuoSpec : ChangeSpec := { name := "fnQuo", vars := ["loop.example/pub-g03235/pub/bigall.divRecursiveThreshold", "loop.example/pub-g03235/pub/bigall.karatsubaThreshold", "loop.example/pub-g03235/pub/bigall.basicSqrThreshold", "loop.example/pub-g03235/pub/bigall.karatsubaSqrThreshold"], fn := fun _ => fun
  | [d1, d2, d3, d4, g1, g2, g3, g4] => { results := [.lit (.bool true)], args := [d1, d2, d3, d4], vars := [g1, g2, g3, g4] }
  | _ => none }
def fnQuoRow : OpenClaim := { program := "ytkhhoamcnocjlabgreatdoor", sum := "9c69b33d7f9b924d533266b25df68967363bc5088218e7f62c91ed57724a8a4a", func := "loop.example/pub-g03235/laws.FnQuo", spec := "fnQuo", inPlace := ["math/bits.Add64", "math/bits.Sub64"], recurses := true, named := ["loop.example/pub-g03235/pub/bigall.divRecursiveThreshold", "loop.example/pub-g03235/pub/bigall.karatsubaThreshold", "loop.example/pub-g03235/pub/bigall.basicSqrThreshold", "loop.example/pub-g03235/pub/bigall.karatsubaSqrThreshold", "math/bits.deBruijn32tab", "math/bits.deBruijn64tab"], apart := false, laid := [("math/bits.deBruijn32tab", laid_math_bits_deBruijn32tab), ("math/bits.deBruijn64tab", laid_math_bits_deBruijn64tab), ("loop.example/pub-g03235/pub/bigall.divRecursiveThreshold", laid_loop_example_pub_g03235_pub_bigall_divRecursiveThreshold), ("loop.example/pub-g03235/pub/bigall.karatsubaThreshold", laid_loop_example_pub_g03235_pub_bigall_karatsubaThreshold), ("loop.example/pub-g03235/pub/bigall.basicSqrThreshold", laid_loop_example_pub_g03235_pub_bigall_basicSqrThreshold), ("loop.example/pub-g03235/pub/bigall.karatsubaSqrThreshold", laid_loop_example_pub_g03235_pub_bigall_karatsubaSqrThreshold)] }
def FnQuoSaid : Prop := fnQuoRow.holds Tryz.pinned (OpenSpec.ofChange fnQuoSpec)

/-- ITS FALSE NEIGHBOUR: 'it returns false'. Refute it at one input. -/
def fnQuoWrong : ChangeSpec := { name := "fnQuo", vars := ["loop.example/pub-g03235/pub/bigall.divRecursiveThreshold", "loop.example/pub-g03235/pub/bigall.karatsubaThreshold", "loop.example/pub-g03235/pub/bigall.basicSqrThreshold", "loop.example/pub-g03235/pub/bigall.karatsubaSqrThreshold"], fn := fun _ => fun
  | [d1, d2, d3, d4, g1, g2, g3, g4] => { results := [.lit (.bool false)], args := [d1, d2, d3, d4], vars := [g1, g2, g3, g4] }
  | _ => none }
def FnQuoWrongFalsely : Prop := fnQuoRow.holds Tryz.pinned (OpenSpec.ofChange fnQuoWrong)

/- THE SECOND FORM. 'bulk': how many values and letters a reading holds, each counted each time it is reached (what is shared counts as often as it is met; a slice's spare places count too). A statement '..UptoSaid' is the law's where the arguments, and the package variables that the reading takes, are together of bulk at most 1048576: NARROWER than '..Said'. Prove '..Said' where nothing that the law and all that it calls make is longer than what came in: it says more and counts as full. Else prove '..UptoSaid'. A law counts once. -/
mutual
def uptoBulk {H : Type} : DataW H → Nat
  | .lit (.string bytes) => bytes.length + 1
  | .lit _ => 1
  | .nil => 1
  | .ptr d => uptoBulk d + 1
  | .slice elems spare => uptoBulkAll elems + uptoBulkAll spare + 1
  | .agg parts => uptoBulkAll parts + 1
  | .iface _ d => uptoBulk d + 1
  | .map entries => uptoBulkEntries entries + 1
  | .held _ => 1
def uptoBulkAll {H : Type} : List (DataW H) → Nat
  | [] => 0
  | d :: r => uptoBulk d + uptoBulkAll r
def uptoBulkEntries {H : Type} : List (Lit × DataW H) → Nat
  | [] => 0
  | x :: r => uptoBulkEntry x + uptoBulkEntries r
def uptoBulkEntry {H : Type} : Lit × DataW H → Nat
  | (.string bytes, d) => bytes.length + uptoBulk d + 1
  | (_, d) => uptoBulk d + 1
 end
def uptoSmall : (H : Type) → List (DataW H) → Bool := fun _ ds => decide (uptoBulkAll ds ≤ 1048576)
def OpenSpec.upto (s : _root_.Go.ChangeSpec) : _root_.Go.OpenSpec := { _root_.Go.OpenSpec.ofChange s with cond := some uptoSmall }

/-- 'laws.FnRatSub', WHERE WHAT IT READS IS OF BULK AT MOST 1048576: true; the input reads as it did. -/
def fnRatSubUptoRow : OpenClaim := { program := "ytkhhoamcnocjlabgreatdoor", sum := "9c69b33d7f9b924d533266b25df68967363bc5088218e7f62c91ed57724a8a4a", func := "loop.example/pub-g03235/laws.FnRatSub", spec := "fnRatSub", inPlace := ["math/bits.Add64", "math/bits.Sub64"], recurses := true, named := ["loop.example/pub-g03235/pub/bigall.karatsubaThreshold", "loop.example/pub-g03235/pub/bigall.basicSqrThreshold", "loop.example/pub-g03235/pub/bigall.karatsubaSqrThreshold", "loop.example/pub-g03235/pub/bigall.divRecursiveThreshold"], apart := false, laid := [("loop.example/pub-g03235/pub/bigall.divRecursiveThreshold", laid_loop_example_pub_g03235_pub_bigall_divRecursiveThreshold), ("loop.example/pub-g03235/pub/bigall.karatsubaThreshold", laid_loop_example_pub_g03235_pub_bigall_karatsubaThreshold), ("loop.example/pub-g03235/pub/bigall.basicSqrThreshold", laid_loop_example_pub_g03235_pub_bigall_basicSqrThreshold), ("loop.example/pub-g03235/pub/bigall.karatsubaSqrThreshold", laid_loop_example_pub_g03235_pub_bigall_karatsubaSqrThreshold)], narrowed := true }
def FnRatSubUptoSaid : Prop := fnRatSubUptoRow.holds Tryz.pinned (OpenSpec.upto fnRatSubSpec)

/-- 'laws.FnRatMul', WHERE WHAT IT READS IS OF BULK AT MOST 1048576: true; the input reads as it did. -/
def fnRatMulUptoRow : OpenClaim := { program := "ytkhhoamcnocjlabgreatdoor", sum := "9c69b33d7f9b924d533266b25df68967363bc5088218e7f62c91ed57724a8a4a", func := "loop.example/pub-g03235/laws.FnRatMul", spec := "fnRatMul", inPlace := ["math/bits.Add64", "math/bits.Sub64"], recurses := true, named := ["loop.example/pub-g03235/pub/bigall.basicSqrThreshold", "loop.example/pub-g03235/pub/bigall.karatsubaSqrThreshold", "loop.example/pub-g03235/pub/bigall.karatsubaThreshold", "loop.example/pub-g03235/pub/bigall.divRecursiveThreshold"], apart := false, laid := [("loop.example/pub-g03235/pub/bigall.divRecursiveThreshold", laid_loop_example_pub_g03235_pub_bigall_divRecursiveThreshold), ("loop.example/pub-g03235/pub/bigall.karatsubaThreshold", laid_loop_example_pub_g03235_pub_bigall_karatsubaThreshold), ("loop.example/pub-g03235/pub/bigall.basicSqrThreshold", laid_loop_example_pub_g03235_pub_bigall_basicSqrThreshold), ("loop.example/pub-g03235/pub/bigall.karatsubaSqrThreshold", laid_loop_example_pub_g03235_pub_bigall_karatsubaSqrThreshold)], narrowed := true }
def FnRatMulUptoSaid : Prop := fnRatMulUptoRow.holds Tryz.pinned (OpenSpec.upto fnRatMulSpec)

/-- 'laws.FnRatQuo', WHERE WHAT IT READS IS OF BULK AT MOST 1048576: true; the input reads as it did. -/
def fnRatQuoUptoRow : OpenClaim := { program := "ytkhhoamcnocjlabgreatdoor", sum := "9c69b33d7f9b924d533266b25df68967363bc5088218e7f62c91ed57724a8a4a", func := "loop.example/pub-g03235/laws.FnRatQuo", spec := "fnRatQuo", inPlace := ["math/bits.Add64", "math/bits.Sub64"], unfollowed := true, recurses := true, named := ["loop.example/pub-g03235/pub/bigall.karatsubaThreshold", "loop.example/pub-g03235/pub/bigall.basicSqrThreshold", "loop.example/pub-g03235/pub/bigall.karatsubaSqrThreshold", "loop.example/pub-g03235/pub/bigall.divRecursiveThreshold"], apart := false, laid := [("loop.example/pub-g03235/pub/bigall.divRecursiveThreshold", laid_loop_example_pub_g03235_pub_bigall_divRecursiveThreshold), ("loop.example/pub-g03235/pub/bigall.karatsubaThreshold", laid_loop_example_pub_g03235_pub_bigall_karatsubaThreshold), ("loop.example/pub-g03235/pub/bigall.basicSqrThreshold", laid_loop_example_pub_g03235_pub_bigall_basicSqrThreshold), ("loop.example/pub-g03235/pub/bigall.karatsubaSqrThreshold", laid_loop_example_pub_g03235_pub_bigall_karatsubaSqrThreshold)], narrowed := true }
def FnRatQuoUptoSaid : Prop := fnRatQuoUptoRow.holds Tryz.pinned (OpenSpec.upto fnRatQuoSpec)

/-- 'laws.FnRatSetFloat64', WHERE WHAT IT READS IS OF BULK AT MOST 1048576: true; the input reads as it did. -/
def fnRatSetFloat64UptoRow : OpenClaim := { program := "ytkhhoamcnocjlabgreatdoor", sum := "9c69b33d7f9b924d533266b25df68967363bc5088218e7f62c91ed57724a8a4a", func := "loop.example/pub-g03235/laws.FnRatSetFloat64", spec := "fnRatSetFloat64", inPlace := ["math.Float64frombits", "math.Float64bits", "math/bits.Add64", "math/bits.Sub64"], recurses := true, named := ["loop.example/pub-g03235/pub/bigall.divRecursiveThreshold", "loop.example/pub-g03235/pub/bigall.karatsubaThreshold", "loop.example/pub-g03235/pub/bigall.basicSqrThreshold", "loop.example/pub-g03235/pub/bigall.karatsubaSqrThreshold"], apart := false, laid := [("loop.example/pub-g03235/pub/bigall.divRecursiveThreshold", laid_loop_example_pub_g03235_pub_bigall_divRecursiveThreshold), ("loop.example/pub-g03235/pub/bigall.karatsubaThreshold", laid_loop_example_pub_g03235_pub_bigall_karatsubaThreshold), ("loop.example/pub-g03235/pub/bigall.basicSqrThreshold", laid_loop_example_pub_g03235_pub_bigall_basicSqrThreshold), ("loop.example/pub-g03235/pub/bigall.karatsubaSqrThreshold", laid_loop_example_pub_g03235_pub_bigall_karatsubaSqrThreshold)], narrowed := true }
def FnRatSetFloat64UptoSaid : Prop := fnRatSetFloat64UptoRow.holds Tryz.pinned (OpenSpec.upto fnRatSetFloat64Spec)

/-- 'laws.FnRatOrder', WHERE WHAT IT READS IS OF BULK AT MOST 1048576: true; the input reads as it did. -/
def fnRatOrderUptoRow : OpenClaim := { program := "ytkhhoamcnocjlabgreatdoor", sum := "9c69b33d7f9b924d533266b25df68967363bc5088218e7f62c91ed57724a8a4a", func := "loop.example/pub-g03235/laws.FnRatOrder", spec := "fnRatOrder", inPlace := ["math/bits.Add64", "math/bits.Sub64"], recurses := true, named := ["loop.example/pub-g03235/pub/bigall.karatsubaThreshold", "loop.example/pub-g03235/pub/bigall.basicSqrThreshold", "loop.example/pub-g03235/pub/bigall.karatsubaSqrThreshold", "loop.example/pub-g03235/pub/bigall.divRecursiveThreshold"], apart := false, laid := [("loop.example/pub-g03235/pub/bigall.divRecursiveThreshold", laid_loop_example_pub_g03235_pub_bigall_divRecursiveThreshold), ("loop.example/pub-g03235/pub/bigall.karatsubaThreshold", laid_loop_example_pub_g03235_pub_bigall_karatsubaThreshold), ("loop.example/pub-g03235/pub/bigall.basicSqrThreshold", laid_loop_example_pub_g03235_pub_bigall_basicSqrThreshold), ("loop.example/pub-g03235/pub/bigall.karatsubaSqrThreshold", laid_loop_example_pub_g03235_pub_bigall_karatsubaSqrThreshold)], narrowed := true }
def FnRatOrderUptoSaid : Prop := fnRatOrderUptoRow.holds Tryz.pinned (OpenSpec.upto fnRatOrderSpec)

/-- 'laws.FnQuo', WHERE WHAT IT READS IS OF BULK AT MOST 1048576: true; the input reads as it did. -/
def fnQuoUptoRow : OpenClaim := { program := "ytkhhoamcnocjlabgreatdoor", sum := "9c69b33d7f9b924d533266b25df68967363bc5088218e7f62c91ed57724a8a4a", func := "loop.example/pub-g03235/laws.FnQuo", spec := "fnQuo", inPlace := ["math/bits.Add64", "math/bits.Sub64"], recurses := true, named := ["loop.example/pub-g03235/pub/bigall.divRecursiveThreshold", "loop.example/pub-g03235/pub/bigall.karatsubaThreshold", "loop.example/pub-g03235/pub/bigall.basicSqrThreshold", "loop.example/pub-g03235/pub/bigall.karatsubaSqrThreshold", "math/bits.deBruijn32tab", "math/bits.deBruijn64tab"], apart := false, laid := [("math/bits.deBruijn32tab", laid_math_bits_deBruijn32tab), ("math/bits.deBruijn64tab", laid_math_bits_deBruijn64tab), ("loop.example/pub-g03235/pub/bigall.divRecursiveThreshold", laid_loop_example_pub_g03235_pub_bigall_divRecursiveThreshold), ("loop.example/pub-g03235/pub/bigall.karatsubaThreshold", laid_loop_example_pub_g03235_pub_bigall_karatsubaThreshold), ("loop.example/pub-g03235/pub/bigall.basicSqrThreshold", laid_loop_example_pub_g03235_pub_bigall_basicSqrThreshold), ("loop.example/pub-g03235/pub/bigall.karatsubaSqrThreshold", laid_loop_example_pub_g03235_pub_bigall_karatsubaSqrThreshold)], narrowed := true }
def FnQuoUptoSaid : Prop := fnQuoUptoRow.holds Tryz.pinned (OpenSpec.upto fnQuoSpec)

end Rows
end Go.Proofs.YtkhhoamcnocjlabGreatDoor
