/-
  DERIVED. GIVEN WITH THE SEED: THE CARDS: each row of YbulkmpwDoorRows.lean that lists a variable, with what it lists TIED to the program's text (the seventh form; the later family's looks); each row that meets fmt, with fmt's text TOLD by the authors' own Lean function (tested against real Go, not proved from fmt's source: count such statements apart). THE CARD IS WHAT COUNTS. Prove the row's statement (the work); the ties are given (YbulkmpwDoorTie.lean); close each card by the builder's one call (the guide's Derived/Test/ToyasCard.lean, 'card_holds'). Laid BY PROGRAM, IN A SANDBOX (cutbox-door.mjs). By AI agents, Wed Nov 11 2026. No macro, syntax, notation, axiom, sorry.
-/
import Derived.Test.YbulkmpwDoorRows
import GoSem.ClaimSeven
namespace Go.Proofs.YbulkmpwDoor
namespace Rows

/-- THE TIED CARD OF 'ozab.LawS0659BActive'. -/
def lawS0659BActiveCard : Claim7 := { stood := { row := lawS0659BActiveRow, standIns := [], harness := (true, "7dea61d25dc5c427e5045f946354b0d2e3ff2e1f4b7fb2af081440323fac9875"), looks := true }, kinds := [], alts := [], laidByText := true, laidKinds := [.sentinel], laidTests := true, laidLooks := .later }
def LawS0659BActiveCardSaid : Prop := Claim7.holds Ybad.pinned (.plain (OpenSpec.ofChange lawS0659BActiveSpec)) lawS0659BActiveCard
end Rows
end Go.Proofs.YbulkmpwDoor
