/-
  No cell of these rows narrows 'for every input' (looked for: loops, veiled, ifaces, maps, wideKeys, modest, calm, conditions, laid).
  DERIVED. THE GIVEN ROWS OF THIS SEAT. 2 by the template 'for every input the law returns true; each argument reads behind the call as it read before'; 0 by the template 'total and deterministic' (their statements: YbulkmouFmtTotals.lean).
  GIVEN WITH THE SEED: the statements are not yours to turn. If you find one false, say at which input.
  Laid BY PROGRAM, IN A SANDBOX (cutbox-rows.mjs): the forced cells as the released guide's own fill.sh prints them over the translation 3c1232937e54e9e1… (all of the seat's roots in one cut). By AI agents, Wed Nov 11 2026. No macro, syntax, notation, axiom, sorry.
-/
import Derived.Test.YbulkmouFmtChecked
import GoSem.Claim
import GoSem.ClaimJoined
import GoSem.ClaimMapViews
import Derived.JoinedTies
import Derived.KernelRfl
namespace Go.Proofs.YbulkmouFmt
/- THE CELL 'sum', in the pinned program and in every row, IS THE sha256 OF THE DUMP (.gsa) THAT YbulkmouFmtProg.lean LOADS. Nothing in Lean hashes anything: it is a label: what it is worth is what the hold of that sum in a sandbox is worth. -/
noncomputable def Ybaf.pinned : Pinned := { name := "ybulkmoufmt", sum := "3c1232937e54e9e1948d0e81c8c409e2939ab2f2c6baca4d6ae72c7980c507cf", checked := Ybaf.checked }
namespace Rows
def none {H : Type} : Left H := { results := [], args := [] }

/-- 'settle.LawS0657CModel': WHATEVER THE INPUT: true; the input reads as it did. -/
def lawS0657CModelSpec : ChangeSpec := { name := "lawS0657CModel", fn := fun _ => fun
  | [d1, d2, d3, d4, d5, d6] => { results := [.lit (.bool true)], args := [d1, d2, d3, d4, d5, d6] }
  | _ => none }
def lawS0657CModelRow : OpenClaim := { program := "ybulkmoufmt", sum := "3c1232937e54e9e1948d0e81c8c409e2939ab2f2c6baca4d6ae72c7980c507cf", func := "example.com/quartzclear/quartzclear/pkg/settle.LawS0657CModel", spec := "lawS0657CModel", stops := ["fmt.errorf, its operands' methods called", "fmt.Sprintf"], inPlace := ["fmt.errorf"], unfollowed := true, recurses := true, apart := false }
/-- NO THEOREM (fmt's text is open here; it may be false): for the released tool's asking of the row's closed facts alone. THE STATEMENT IS 'LawS0657CModelToldSaid' (YbulkmouFmtCards.lean). -/
def LawS0657CModelFormAsk : Prop := lawS0657CModelRow.holds Ybaf.pinned (OpenSpec.ofChange lawS0657CModelSpec)

/-- ITS FALSE NEIGHBOUR: 'it returns false'. Refute it at one input. -/
def lawS0657CModelWrong : ChangeSpec := { name := "lawS0657CModel", fn := fun _ => fun
  | [d1, d2, d3, d4, d5, d6] => { results := [.lit (.bool false)], args := [d1, d2, d3, d4, d5, d6] }
  | _ => none }
def LawS0657CModelWrongFormAsk : Prop := lawS0657CModelRow.holds Ybaf.pinned (OpenSpec.ofChange lawS0657CModelWrong)

/-- 'settle.LawS0657CNotBoth': WHATEVER THE INPUT: true; the input reads as it did. -/
def lawS0657CNotBothSpec : ChangeSpec := { name := "lawS0657CNotBoth", fn := fun _ => fun
  | [d1, d2, d3, d4, d5] => { results := [.lit (.bool true)], args := [d1, d2, d3, d4, d5] }
  | _ => none }
def lawS0657CNotBothRow : OpenClaim := { program := "ybulkmoufmt", sum := "3c1232937e54e9e1948d0e81c8c409e2939ab2f2c6baca4d6ae72c7980c507cf", func := "example.com/quartzclear/quartzclear/pkg/settle.LawS0657CNotBoth", spec := "lawS0657CNotBoth", stops := ["fmt.errorf, its operands' methods called", "fmt.Sprintf"], inPlace := ["fmt.errorf"], unfollowed := true, recurses := true, apart := false }
/-- NO THEOREM (fmt's text is open here; it may be false): for the released tool's asking of the row's closed facts alone. THE STATEMENT IS 'LawS0657CNotBothToldSaid' (YbulkmouFmtCards.lean). -/
def LawS0657CNotBothFormAsk : Prop := lawS0657CNotBothRow.holds Ybaf.pinned (OpenSpec.ofChange lawS0657CNotBothSpec)

/-- ITS FALSE NEIGHBOUR: 'it returns false'. Refute it at one input. -/
def lawS0657CNotBothWrong : ChangeSpec := { name := "lawS0657CNotBoth", fn := fun _ => fun
  | [d1, d2, d3, d4, d5] => { results := [.lit (.bool false)], args := [d1, d2, d3, d4, d5] }
  | _ => none }
def LawS0657CNotBothWrongFormAsk : Prop := lawS0657CNotBothRow.holds Ybaf.pinned (OpenSpec.ofChange lawS0657CNotBothWrong)

end Rows
end Go.Proofs.YbulkmouFmt
