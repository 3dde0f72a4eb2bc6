/-
  DERIVED. GIVEN WITH THE SEED: THE CARDS: each row of YtldejfallphhbaaGreatDoorRows.lean that lists a variable, with what it lists TIED to the program's text (the seventh form; the later family's looks); each row that meets fmt, with fmt's text TOLD by the authors' own Lean function (tested against real Go, not proved from fmt's source: count such statements apart). THE CARD IS WHAT COUNTS. Prove the row's statement (the work); the ties are given (YtldejfallphhbaaGreatDoorTie.lean); close each card by the builder's one call (the guide's Derived/Test/ToyasCard.lean, 'card_holds'). Laid BY PROGRAM, IN A SANDBOX (cutbox-door.mjs). By AI agents, Wed Nov 11 2026. No macro, syntax, notation, axiom, sorry.
-/
import Derived.Test.YtldejfallphhbaaGreatDoorRows
import GoSem.ClaimSeven
namespace Go.Proofs.YtldejfallphhbaaGreatDoor
namespace Rows

/-- THE TIED CARD OF 'laws.FnMathWhole'. -/
def fnMathWholeCard : Claim7 := { stood := { row := fnMathWholeRow, standIns := [], harness := (true, "932a198e0227ae210e137411ac42dd2f0d9233e78dc4372d2adf732e7ef60a97"), looks := true }, kinds := [], alts := [], laidByText := true, laidKinds := [.data, .data, .data, .data], laidTests := true, laidLooks := .later }
def FnMathWholeCardSaid : Prop := Claim7.holds Tryz.pinned (.plain (OpenSpec.ofChange fnMathWholeSpec)) fnMathWholeCard

/-- THE SECOND FORM's CARD OF 'laws.FnMathWhole'. -/
def fnMathWholeUptoCard : Claim7 := { stood := { row := fnMathWholeUptoRow, standIns := [], harness := (true, "932a198e0227ae210e137411ac42dd2f0d9233e78dc4372d2adf732e7ef60a97"), looks := true }, kinds := [], alts := [], laidByText := true, laidKinds := [.data, .data, .data, .data], laidTests := true, laidLooks := .later }
def FnMathWholeUptoCardSaid : Prop := Claim7.holds Tryz.pinned (.plain (OpenSpec.upto fnMathWholeSpec)) fnMathWholeUptoCard
end Rows
end Go.Proofs.YtldejfallphhbaaGreatDoor
