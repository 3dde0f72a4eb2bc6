/-
  NARROWER THAN 'FOR EVERY INPUT', by the rows' own cells (each row's printed sentence says how): FnMathWhole: laid.
  DERIVED. THE GIVEN ROWS OF THIS SEAT. 1 by the template 'for every input the law returns true; each argument reads behind the call as it read before'; 0 by the template 'total and deterministic' (their statements: YtldejfallphhbaaGreatDoorTotals.lean).
  GIVEN WITH THE SEED: the statements are not yours to turn. If you find one false, say at which input.
  Laid BY PROGRAM, IN A SANDBOX (cutbox-rows.mjs): the forced cells as the released guide's own fill.sh prints them over the translation babdd0f89d81a309… (all of the seat's roots in one cut). By AI agents, Wed Nov 11 2026. No macro, syntax, notation, axiom, sorry.
-/
import Derived.Test.YtldejfallphhbaaGreatDoorChecked
import GoSem.Claim
import GoSem.ClaimJoined
import GoSem.ClaimMapViews
import Derived.JoinedTies
import Derived.KernelRfl
namespace Go.Proofs.YtldejfallphhbaaGreatDoor
/- THE CELL 'sum', in the pinned program and in every row, IS THE sha256 OF THE DUMP (.gsa) THAT YtldejfallphhbaaGreatDoorProg.lean LOADS. Nothing in Lean hashes anything: it is a label: what it is worth is what the hold of that sum in a sandbox is worth. -/
noncomputable def Tryz.pinned : Pinned := { name := "ytldejfallphhbaagreatdoor", sum := "babdd0f89d81a3098ef83d03ad8d3fd4a379ec7e97b25dc7b8b9af91f0a7dd8b", checked := Tryz.checked }
namespace Rows
def none {H : Type} : Left H := { results := [], args := [] }

/- WHAT THE LISTED PACKAGE-LEVEL VARIABLES READ AS WHEN THE CALL BEGINS. Each datum BY PROGRAM (the guide's laid-datum.mjs) off the statement by which the dump's own 'gosem.cut.vars' lays the variable. In a bare row this is a premise. The card (YtldejfallphhbaaGreatDoorCards.lean) ties it to the program's text. -/
def laid_given_example_pub_larkspur_pub_bigall_divRecursiveThreshold {H : Type} : DataW H := .lit (.int .i64 40)
def laid_given_example_pub_larkspur_pub_bigall_karatsubaThreshold {H : Type} : DataW H := .lit (.int .i64 40)
def laid_given_example_pub_larkspur_pub_bigall_basicSqrThreshold {H : Type} : DataW H := .lit (.int .i64 12)
def laid_given_example_pub_larkspur_pub_bigall_karatsubaSqrThreshold {H : Type} : DataW H := .lit (.int .i64 80)

/-- 'laws.FnMathWhole': WHATEVER THE INPUT: true; the input reads as it did. -/
def fnMathWholeSpec : ChangeSpec := { name := "fnMathWhole", vars := ["given.example/pub-larkspur/pub/bigall.divRecursiveThreshold", "given.example/pub-larkspur/pub/bigall.karatsubaThreshold", "given.example/pub-larkspur/pub/bigall.basicSqrThreshold", "given.example/pub-larkspur/pub/bigall.karatsubaSqrThreshold"], fn := fun _ => fun
  | [d1, d2, d3, g1, g2, g3, g4] => { results := [.lit (.bool true)], args := [d1, d2, d3], vars := [g1, g2, g3, g4] }
  | _ => none }
def fnMathWholeRow : OpenClaim := { program := "ytldejfallphhbaagreatdoor", sum := "babdd0f89d81a3098ef83d03ad8d3fd4a379ec7e97b25dc7b8b9af91f0a7dd8b", func := "given.example/pub-larkspur/laws.FnMathWhole", spec := "fnMathWhole", inPlace := ["math.Float64frombits", "math.Float64bits", "math.archCeil", "math.archFloor", "math.archTrunc", "math/bits.Add64", "math/bits.Sub64", "math.sqrt"], unfollowed := true, recurses := true, named := ["given.example/pub-larkspur/pub/bigall.divRecursiveThreshold", "given.example/pub-larkspur/pub/bigall.karatsubaThreshold", "given.example/pub-larkspur/pub/bigall.basicSqrThreshold", "given.example/pub-larkspur/pub/bigall.karatsubaSqrThreshold"], apart := false, laid := [("given.example/pub-larkspur/pub/bigall.divRecursiveThreshold", laid_given_example_pub_larkspur_pub_bigall_divRecursiveThreshold), ("given.example/pub-larkspur/pub/bigall.karatsubaThreshold", laid_given_example_pub_larkspur_pub_bigall_karatsubaThreshold), ("given.example/pub-larkspur/pub/bigall.basicSqrThreshold", laid_given_example_pub_larkspur_pub_bigall_basicSqrThreshold), ("given.example/pub-larkspur/pub/bigall.karatsubaSqrThreshold", laid_given_example_pub_larkspur_pub_bigall_karatsubaSqrThreshold)] }
def FnMathWholeSaid : Prop := fnMathWholeRow.holds Tryz.pinned (OpenSpec.ofChange fnMathWholeSpec)

/-- ITS FALSE NEIGHBOUR: 'it returns false'. Refute it at one input. -/
def fnMathWholeWrong : ChangeSpec := { name := "fnMathWhole", vars := ["given.example/pub-larkspur/pub/bigall.divRecursiveThreshold", "given.example/pub-larkspur/pub/bigall.karatsubaThreshold", "given.example/pub-larkspur/pub/bigall.basicSqrThreshold", "given.example/pub-larkspur/pub/bigall.karatsubaSqrThreshold"], fn := fun _ => fun
  | [d1, d2, d3, g1, g2, g3, g4] => { results := [.lit (.bool false)], args := [d1, d2, d3], vars := [g1, g2, g3, g4] }
  | _ => none }
def FnMathWholeWrongFalsely : Prop := fnMathWholeRow.holds Tryz.pinned (OpenSpec.ofChange fnMathWholeWrong)

/- THE SECOND FORM. 'bulk': how many values and letters a reading holds, each counted each time it is reached (what is shared counts as often as it is met; a slice's spare places count too). A statement '..UptoSaid' is the law's where the arguments, and the package variables that the reading takes, are together of bulk at most 1048576: NARROWER than '..Said'. Prove '..Said' where nothing that the law and all that it calls make is longer than what came in: it says more and counts as full. Else prove '..UptoSaid'. A law counts once. -/
mutual
def uptoBulk {H : Type} : DataW H → Nat
  | .lit (.string bytes) => bytes.length + 1
  | .lit _ => 1
  | .nil => 1
  | .ptr d => uptoBulk d + 1
  | .slice elems spare => uptoBulkAll elems + uptoBulkAll spare + 1
  | .agg parts => uptoBulkAll parts + 1
  | .iface _ d => uptoBulk d + 1
  | .map entries => uptoBulkEntries entries + 1
  | .held _ => 1
def uptoBulkAll {H : Type} : List (DataW H) → Nat
  | [] => 0
  | d :: r => uptoBulk d + uptoBulkAll r
def uptoBulkEntries {H : Type} : List (Lit × DataW H) → Nat
  | [] => 0
  | x :: r => uptoBulkEntry x + uptoBulkEntries r
def uptoBulkEntry {H : Type} : Lit × DataW H → Nat
  | (.string bytes, d) => bytes.length + uptoBulk d + 1
  | (_, d) => uptoBulk d + 1
 end
def uptoSmall : (H : Type) → List (DataW H) → Bool := fun _ ds => decide (uptoBulkAll ds ≤ 1048576)
def OpenSpec.upto (s : _root_.Go.ChangeSpec) : _root_.Go.OpenSpec := { _root_.Go.OpenSpec.ofChange s with cond := some uptoSmall }

/-- 'laws.FnMathWhole', WHERE WHAT IT READS IS OF BULK AT MOST 1048576: true; the input reads as it did. -/
def fnMathWholeUptoRow : OpenClaim := { program := "ytldejfallphhbaagreatdoor", sum := "babdd0f89d81a3098ef83d03ad8d3fd4a379ec7e97b25dc7b8b9af91f0a7dd8b", func := "given.example/pub-larkspur/laws.FnMathWhole", spec := "fnMathWhole", inPlace := ["math.Float64frombits", "math.Float64bits", "math.archCeil", "math.archFloor", "math.archTrunc", "math/bits.Add64", "math/bits.Sub64", "math.sqrt"], unfollowed := true, recurses := true, named := ["given.example/pub-larkspur/pub/bigall.divRecursiveThreshold", "given.example/pub-larkspur/pub/bigall.karatsubaThreshold", "given.example/pub-larkspur/pub/bigall.basicSqrThreshold", "given.example/pub-larkspur/pub/bigall.karatsubaSqrThreshold"], apart := false, laid := [("given.example/pub-larkspur/pub/bigall.divRecursiveThreshold", laid_given_example_pub_larkspur_pub_bigall_divRecursiveThreshold), ("given.example/pub-larkspur/pub/bigall.karatsubaThreshold", laid_given_example_pub_larkspur_pub_bigall_karatsubaThreshold), ("given.example/pub-larkspur/pub/bigall.basicSqrThreshold", laid_given_example_pub_larkspur_pub_bigall_basicSqrThreshold), ("given.example/pub-larkspur/pub/bigall.karatsubaSqrThreshold", laid_given_example_pub_larkspur_pub_bigall_karatsubaSqrThreshold)], narrowed := true }
def FnMathWholeUptoSaid : Prop := fnMathWholeUptoRow.holds Tryz.pinned (OpenSpec.upto fnMathWholeSpec)

end Rows
end Go.Proofs.YtldejfallphhbaaGreatDoor
