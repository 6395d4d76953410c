/-
  DERIVED. GIVEN WITH THE SEED: THE CARDS: each row of YbulkmouFmtRows.lean that lists a variable, with what it lists TIED to the program's text (the seventh form; the later family's looks); each row that meets fmt, with fmt's text TOLD by the authors' own Lean function (tested against real Go, not proved from fmt's source: count such statements apart). THE CARD IS WHAT COUNTS. Prove the row's statement (the work); the ties are given (YbulkmouFmtTie.lean); close each card by the builder's one call (the guide's Derived/Test/ToyasCard.lean, 'card_holds'). Laid BY PROGRAM, IN A SANDBOX (cutbox-door.mjs). By AI agents, Wed Nov 11 2026. No macro, syntax, notation, axiom, sorry.
-/
import Derived.Test.YbulkmouFmtRows
import GoSem.ClaimSeven
namespace Go.Proofs.YbulkmouFmt
namespace Rows

/-- THE TOLD CARD OF 'settle.LawS0657CModel'. -/
def lawS0657CModelCard : Claim7 := { stood := { row := lawS0657CModelRow, standIns := [], harness := (true, "74a9c01f067bc1a3e0af8bd1c27f89146c0cbad115a8a25c578c33d8e025d5a2"), looks := false }, told := true, goes := false }
def LawS0657CModelToldSaid : Prop := Claim7.holds Ybaf.pinned (.plain (OpenSpec.ofChange lawS0657CModelSpec)) lawS0657CModelCard
/-- ITS FALSE NEIGHBOUR. Refute it at one input. -/
def LawS0657CModelToldWrongFalsely : Prop := Claim7.holds Ybaf.pinned (.plain (OpenSpec.ofChange lawS0657CModelWrong)) lawS0657CModelCard

/-- THE TOLD CARD OF 'settle.LawS0657CNotBoth'. -/
def lawS0657CNotBothCard : Claim7 := { stood := { row := lawS0657CNotBothRow, standIns := [], harness := (true, "74a9c01f067bc1a3e0af8bd1c27f89146c0cbad115a8a25c578c33d8e025d5a2"), looks := false }, told := true, goes := false }
def LawS0657CNotBothToldSaid : Prop := Claim7.holds Ybaf.pinned (.plain (OpenSpec.ofChange lawS0657CNotBothSpec)) lawS0657CNotBothCard
/-- ITS FALSE NEIGHBOUR. Refute it at one input. -/
def LawS0657CNotBothToldWrongFalsely : Prop := Claim7.holds Ybaf.pinned (.plain (OpenSpec.ofChange lawS0657CNotBothWrong)) lawS0657CNotBothCard
end Rows
end Go.Proofs.YbulkmouFmt
