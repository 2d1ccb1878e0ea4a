/-
  NARROWER THAN 'FOR EVERY INPUT', by the rows' own cells (each row's printed sentence says how): FnRatCmp: laid.
  DERIVED. THE GIVEN ROWS OF THIS SEAT. 1 by the template 'for every input the law returns true; each argument reads behind the call as it read before'; 0 by the template 'total and deterministic' (their statements: YtlapgbkngkejpaaDoorTotals.lean).
  GIVEN WITH THE SEED: the statements are not yours to turn. If you find one false, say at which input.
  Laid BY PROGRAM, IN A SANDBOX (cutbox-rows.mjs): the forced cells as the released guide's own fill.sh prints them over the translation 815075f8afd99b4a… (all of the seat's roots in one cut). By AI agents, Wed Nov 11 2026. No macro, syntax, notation, axiom, sorry.
-/
import Derived.Test.YtlapgbkngkejpaaDoorChecked
import GoSem.Claim
import GoSem.ClaimJoined
import GoSem.ClaimMapViews
import Derived.JoinedTies
import Derived.KernelRfl
namespace Go.Proofs.YtlapgbkngkejpaaDoor
/- THE CELL 'sum', in the pinned program and in every row, IS THE sha256 OF THE DUMP (.gsa) THAT YtlapgbkngkejpaaDoorProg.lean LOADS. Nothing in Lean hashes anything: it is a label: what it is worth is what the hold of that sum in a sandbox is worth. -/
noncomputable def Tryd.pinned : Pinned := { name := "ytlapgbkngkejpaadoor", sum := "815075f8afd99b4a4684a715c670e2e6c13ca4bbf22d4183f5a0556275aafff9", checked := Tryd.checked }
namespace Rows
def none {H : Type} : Left H := { results := [], args := [] }

/- WHAT THE LISTED PACKAGE-LEVEL VARIABLES READ AS WHEN THE CALL BEGINS. Each datum BY PROGRAM (the guide's laid-datum.mjs) off the statement by which the dump's own 'gosem.cut.vars' lays the variable. In a bare row this is a premise. The card (YtlapgbkngkejpaaDoorCards.lean) ties it to the program's text. -/
def laid_loop_example_pub_g03235_pub_bigall_karatsubaThreshold {H : Type} : DataW H := .lit (.int .i64 40)
def laid_loop_example_pub_g03235_pub_bigall_basicSqrThreshold {H : Type} : DataW H := .lit (.int .i64 12)
def laid_loop_example_pub_g03235_pub_bigall_karatsubaSqrThreshold {H : Type} : DataW H := .lit (.int .i64 80)

/-- 'laws.FnRatCmp': WHATEVER THE INPUT: true; the input reads as it did. -/
def fnRatCmpSpec : ChangeSpec := { name := "fnRatCmp", vars := ["loop.example/pub-g03235/pub/bigall.karatsubaThreshold", "loop.example/pub-g03235/pub/bigall.basicSqrThreshold", "loop.example/pub-g03235/pub/bigall.karatsubaSqrThreshold"], fn := fun _ => fun
  | [d1, d2, g1, g2, g3] => { results := [.lit (.bool true)], args := [d1, d2], vars := [g1, g2, g3] }
  | _ => none }
def fnRatCmpRow : OpenClaim := { program := "ytlapgbkngkejpaadoor", sum := "815075f8afd99b4a4684a715c670e2e6c13ca4bbf22d4183f5a0556275aafff9", func := "loop.example/pub-g03235/laws.FnRatCmp", spec := "fnRatCmp", inPlace := ["math/bits.Add64", "math/bits.Sub64"], recurses := true, named := ["loop.example/pub-g03235/pub/bigall.karatsubaThreshold", "loop.example/pub-g03235/pub/bigall.basicSqrThreshold", "loop.example/pub-g03235/pub/bigall.karatsubaSqrThreshold"], apart := false, laid := [("loop.example/pub-g03235/pub/bigall.karatsubaThreshold", laid_loop_example_pub_g03235_pub_bigall_karatsubaThreshold), ("loop.example/pub-g03235/pub/bigall.basicSqrThreshold", laid_loop_example_pub_g03235_pub_bigall_basicSqrThreshold), ("loop.example/pub-g03235/pub/bigall.karatsubaSqrThreshold", laid_loop_example_pub_g03235_pub_bigall_karatsubaSqrThreshold)] }
def FnRatCmpSaid : Prop := fnRatCmpRow.holds Tryd.pinned (OpenSpec.ofChange fnRatCmpSpec)

/-- ITS FALSE NEIGHBOUR: 'it returns false'. Refute it at one input. -/
def fnRatCmpWrong : ChangeSpec := { name := "fnRatCmp", vars := ["loop.example/pub-g03235/pub/bigall.karatsubaThreshold", "loop.example/pub-g03235/pub/bigall.basicSqrThreshold", "loop.example/pub-g03235/pub/bigall.karatsubaSqrThreshold"], fn := fun _ => fun
  | [d1, d2, g1, g2, g3] => { results := [.lit (.bool false)], args := [d1, d2], vars := [g1, g2, g3] }
  | _ => none }
def FnRatCmpWrongFalsely : Prop := fnRatCmpRow.holds Tryd.pinned (OpenSpec.ofChange fnRatCmpWrong)

/- THE SECOND FORM. 'bulk': how many values and letters a reading holds, each counted each time it is reached (what is shared counts as often as it is met; a slice's spare places count too). A statement '..UptoSaid' is the law's where the arguments, and the package variables that the reading takes, are together of bulk at most 1048576: NARROWER than '..Said'. Prove '..Said' where nothing that the law and all that it calls make is longer than what came in: it says more and counts as full. Else prove '..UptoSaid'. A law counts once. -/
mutual
def uptoBulk {H : Type} : DataW H → Nat
  | .lit (.string bytes) => bytes.length + 1
  | .lit _ => 1
  | .nil => 1
  | .ptr d => uptoBulk d + 1
  | .slice elems spare => uptoBulkAll elems + uptoBulkAll spare + 1
  | .agg parts => uptoBulkAll parts + 1
  | .iface _ d => uptoBulk d + 1
  | .map entries => uptoBulkEntries entries + 1
  | .held _ => 1
def uptoBulkAll {H : Type} : List (DataW H) → Nat
  | [] => 0
  | d :: r => uptoBulk d + uptoBulkAll r
def uptoBulkEntries {H : Type} : List (Lit × DataW H) → Nat
  | [] => 0
  | x :: r => uptoBulkEntry x + uptoBulkEntries r
def uptoBulkEntry {H : Type} : Lit × DataW H → Nat
  | (.string bytes, d) => bytes.length + uptoBulk d + 1
  | (_, d) => uptoBulk d + 1
 end
def uptoSmall : (H : Type) → List (DataW H) → Bool := fun _ ds => decide (uptoBulkAll ds ≤ 1048576)
def OpenSpec.upto (s : _root_.Go.ChangeSpec) : _root_.Go.OpenSpec := { _root_.Go.OpenSpec.ofChange s with cond := some uptoSmall }

/-- 'laws.FnRatCmp', WHERE WHAT IT READS IS OF BULK AT MOST 1048576: true; the input reads as it did. -/
def fnRatCmpUptoRow : OpenClaim := { program := "ytlapgbkngkejpaadoor", sum := "815075f8afd99b4a4684a715c670e2e6c13ca4bbf22d4183f5a0556275aafff9", func := "loop.example/pub-g03235/laws.FnRatCmp", spec := "fnRatCmp", inPlace := ["math/bits.Add64", "math/bits.Sub64"], recurses := true, named := ["loop.example/pub-g03235/pub/bigall.karatsubaThreshold", "loop.example/pub-g03235/pub/bigall.basicSqrThreshold", "loop.example/pub-g03235/pub/bigall.karatsubaSqrThreshold"], apart := false, laid := [("loop.example/pub-g03235/pub/bigall.karatsubaThreshold", laid_loop_example_pub_g03235_pub_bigall_karatsubaThreshold), ("loop.example/pub-g03235/pub/bigall.basicSqrThreshold", laid_loop_example_pub_g03235_pub_bigall_basicSqrThreshold), ("loop.example/pub-g03235/pub/bigall.karatsubaSqrThreshold", laid_loop_example_pub_g03235_pub_bigall_karatsubaSqrThreshold)], narrowed := true }
def FnRatCmpUptoSaid : Prop := fnRatCmpUptoRow.holds Tryd.pinned (OpenSpec.upto fnRatCmpSpec)

end Rows
end Go.Proofs.YtlapgbkngkejpaaDoor
