/-
  DERIVED. GIVEN WITH THE SEED: THE CARDS: each row of YtdidglfaogmnfaaGreatDoorRows.lean that lists a variable, with what it lists TIED to the program's text (the seventh form; the later family's looks); each row that meets fmt, with fmt's text TOLD by the authors' own Lean function (tested against real Go, not proved from fmt's source: count such statements apart). THE CARD IS WHAT COUNTS. Prove the row's statement (the work); the ties are given (YtdidglfaogmnfaaGreatDoorTie.lean); close each card by the builder's one call (the guide's Derived/Test/ToyasCard.lean, 'card_holds'). Laid BY PROGRAM, IN A SANDBOX (cutbox-door.mjs). By AI agents, Wed Nov 11 2026. No macro, syntax, notation, axiom, sorry.
-/
import Derived.Test.YtdidglfaogmnfaaGreatDoorRows
import GoSem.ClaimSeven
namespace Go.Proofs.YtdidglfaogmnfaaGreatDoor
namespace Rows

/-- THE TIED CARD OF 'laws.FnIntText'. -/
def fnIntTextCard : Claim7 := { stood := { row := fnIntTextRow, standIns := [], harness := (true, "dc3e5673ea87cd8e05d4099ebb013c903c16bf453a78a0c36c8c973f9826f857"), looks := false }, kinds := [], alts := [], laidByText := true, laidKinds := [.data, .data, .data, .data, .data, .data, .data, .data], laidTests := true, laidLooks := .later }
def FnIntTextCardSaid : Prop := Claim7.holds Tryz.pinned (.plain (OpenSpec.ofChange fnIntTextSpec)) fnIntTextCard

/-- THE SECOND FORM's CARD OF 'laws.FnIntText'. -/
def fnIntTextUptoCard : Claim7 := { stood := { row := fnIntTextUptoRow, standIns := [], harness := (true, "dc3e5673ea87cd8e05d4099ebb013c903c16bf453a78a0c36c8c973f9826f857"), looks := false }, kinds := [], alts := [], laidByText := true, laidKinds := [.data, .data, .data, .data, .data, .data, .data, .data], laidTests := true, laidLooks := .later }
def FnIntTextUptoCardSaid : Prop := Claim7.holds Tryz.pinned (.plain (OpenSpec.upto fnIntTextSpec)) fnIntTextUptoCard
end Rows
end Go.Proofs.YtdidglfaogmnfaaGreatDoor
