/-
  DERIVED. GIVEN WITH THE SEED: THE CARDS: each row of YtdbjoiojiibdgaaGreatDoorRows.lean that lists a variable, with what it lists TIED to the program's text (the seventh form; the later family's looks); each row that meets fmt, with fmt's text TOLD by the authors' own Lean function (tested against real Go, not proved from fmt's source: count such statements apart). THE CARD IS WHAT COUNTS. Prove the row's statement (the work); the ties are given (YtdbjoiojiibdgaaGreatDoorTie.lean); close each card by the builder's one call (the guide's Derived/Test/ToyasCard.lean, 'card_holds'). Laid BY PROGRAM, IN A SANDBOX (cutbox-door.mjs). By AI agents, Wed Nov 11 2026. No macro, syntax, notation, axiom, sorry.
-/
import Derived.Test.YtdbjoiojiibdgaaGreatDoorRows
import GoSem.ClaimSeven
namespace Go.Proofs.YtdbjoiojiibdgaaGreatDoor
namespace Rows

/-- THE TIED CARD OF 'laws.FnFloatFixed'. -/
def fnFloatFixedCard : Claim7 := { stood := { row := fnFloatFixedRow, standIns := [], harness := (true, "2e29e3e3439aa10c8e021797e8366b1659e3c8086248770efc3f771c1a1acd9b"), looks := false }, kinds := [], alts := [], laidByText := true, laidKinds := [.data, .data, .data, .data, .pinned, .pinned], laidTests := true, laidLooks := .later }
def FnFloatFixedCardSaid : Prop := Claim7.holds Tryz.pinned (.plain (OpenSpec.ofChange fnFloatFixedSpec)) fnFloatFixedCard

/-- THE SECOND FORM's CARD OF 'laws.FnFloatFixed'. -/
def fnFloatFixedUptoCard : Claim7 := { stood := { row := fnFloatFixedUptoRow, standIns := [], harness := (true, "2e29e3e3439aa10c8e021797e8366b1659e3c8086248770efc3f771c1a1acd9b"), looks := false }, kinds := [], alts := [], laidByText := true, laidKinds := [.data, .data, .data, .data, .pinned, .pinned], laidTests := true, laidLooks := .later }
def FnFloatFixedUptoCardSaid : Prop := Claim7.holds Tryz.pinned (.plain (OpenSpec.upto fnFloatFixedSpec)) fnFloatFixedUptoCard
end Rows
end Go.Proofs.YtdbjoiojiibdgaaGreatDoor
