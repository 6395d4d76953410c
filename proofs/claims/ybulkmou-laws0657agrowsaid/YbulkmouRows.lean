/-
  No cell of these rows narrows 'for every input' (looked for: loops, veiled, ifaces, maps, wideKeys, modest, calm, conditions, laid).
  DERIVED. THE GIVEN ROWS OF THIS SEAT. 1 by the template 'for every input the law returns true; each argument reads behind the call as it read before'; 0 by the template 'total and deterministic' (their statements: YbulkmouTotals.lean).
  GIVEN WITH THE SEED: the statements are not yours to turn. If you find one false, say at which input.
  Laid BY PROGRAM, IN A SANDBOX (cutbox-rows.mjs): the forced cells as the released guide's own fill.sh prints them over the translation 62747c9c7d3572a7… (all of the seat's roots in one cut). By AI agents, Wed Nov 11 2026. No macro, syntax, notation, axiom, sorry.
-/
import Derived.Test.YbulkmouChecked
import GoSem.Claim
import GoSem.ClaimJoined
import GoSem.ClaimMapViews
import Derived.JoinedTies
import Derived.KernelRfl
namespace Go.Proofs.Ybulkmou
/- THE CELL 'sum', in the pinned program and in every row, IS THE sha256 OF THE DUMP (.gsa) THAT YbulkmouProg.lean LOADS. Nothing in Lean hashes anything: it is a label: what it is worth is what the hold of that sum in a sandbox is worth. -/
noncomputable def Yba.pinned : Pinned := { name := "ybulkmou", sum := "62747c9c7d3572a7248d67d1c4a43272d4d39726ec8a78748d87aea69d39a427", checked := Yba.checked }
namespace Rows
def none {H : Type} : Left H := { results := [], args := [] }

/-- 'settle.LawS0657AGrow': WHATEVER THE INPUT: true; the input reads as it did. -/
def lawS0657AGrowSpec : ChangeSpec := { name := "lawS0657AGrow", fn := fun _ => fun
  | [d1, d2, d3, d4] => { results := [.lit (.bool true)], args := [d1, d2, d3, d4] }
  | _ => none }
def lawS0657AGrowRow : OpenClaim := { program := "ybulkmou", sum := "62747c9c7d3572a7248d67d1c4a43272d4d39726ec8a78748d87aea69d39a427", func := "example.com/quartzclear/quartzclear/pkg/settle.LawS0657AGrow", spec := "lawS0657AGrow", apart := false }
def LawS0657AGrowSaid : Prop := lawS0657AGrowRow.holds Yba.pinned (OpenSpec.ofChange lawS0657AGrowSpec)

/-- ITS FALSE NEIGHBOUR: 'it returns false'. Refute it at one input. -/
def lawS0657AGrowWrong : ChangeSpec := { name := "lawS0657AGrow", fn := fun _ => fun
  | [d1, d2, d3, d4] => { results := [.lit (.bool false)], args := [d1, d2, d3, d4] }
  | _ => none }
def LawS0657AGrowWrongFalsely : Prop := lawS0657AGrowRow.holds Yba.pinned (OpenSpec.ofChange lawS0657AGrowWrong)

end Rows
end Go.Proofs.Ybulkmou
