/-
  DERIVED. GIVEN WITH THE SEED: THE CARDS: each row of YtniiphdbajjldaaDoorRows.lean that lists a variable, with what it lists TIED to the program's text (the seventh form; the later family's looks); each row that meets fmt, with fmt's text TOLD by the authors' own Lean function (tested against real Go, not proved from fmt's source: count such statements apart). THE CARD IS WHAT COUNTS. Prove the row's statement (the work); the ties are given (YtniiphdbajjldaaDoorTie.lean); close each card by the builder's one call (the guide's Derived/Test/ToyasCard.lean, 'card_holds'). Laid BY PROGRAM, IN A SANDBOX (cutbox-door.mjs). By AI agents, Wed Nov 11 2026. No macro, syntax, notation, axiom, sorry.
-/
import Derived.Test.YtniiphdbajjldaaDoorRows
import GoSem.ClaimSeven
namespace Go.Proofs.YtniiphdbajjldaaDoor
namespace Rows

/-- THE TIED CARD OF 'laws.FnFloatTextIs'. -/
def fnFloatTextIsCard : Claim7 := { stood := { row := fnFloatTextIsRow, standIns := [], harness := (true, "672d5d5e58fc5b84bc4d006f1a0dfd54c448a24bf59d9700c186ed8358006785"), looks := false }, kinds := [], alts := [], laidByText := true, laidKinds := [.data, .data, .data, .data, .pinned, .pinned], laidTests := true, laidLooks := .later }
def FnFloatTextIsCardSaid : Prop := Claim7.holds Tryd.pinned (.plain (OpenSpec.ofChange fnFloatTextIsSpec)) fnFloatTextIsCard

/-- THE SECOND FORM's CARD OF 'laws.FnFloatTextIs'. -/
def fnFloatTextIsUptoCard : Claim7 := { stood := { row := fnFloatTextIsUptoRow, standIns := [], harness := (true, "672d5d5e58fc5b84bc4d006f1a0dfd54c448a24bf59d9700c186ed8358006785"), looks := false }, kinds := [], alts := [], laidByText := true, laidKinds := [.data, .data, .data, .data, .pinned, .pinned], laidTests := true, laidLooks := .later }
def FnFloatTextIsUptoCardSaid : Prop := Claim7.holds Tryd.pinned (.plain (OpenSpec.upto fnFloatTextIsSpec)) fnFloatTextIsUptoCard
end Rows
end Go.Proofs.YtniiphdbajjldaaDoor
