/-
  No cell of these rows narrows 'for every input' (looked for: loops, veiled, ifaces, maps, wideKeys, modest, calm, conditions, laid).
  DERIVED. THE GIVEN ROWS OF THIS SEAT. 2 by the template 'for every input the law returns true; each argument reads behind the call as it read before'; 0 by the template 'total and deterministic' (their statements: YbulkmqyTotals.lean).
  GIVEN WITH THE SEED: the statements are not yours to turn. If you find one false, say at which input.
  Laid BY PROGRAM, IN A SANDBOX (cutbox-rows.mjs): the forced cells as the released guide's own fill.sh prints them over the translation b1425b53b4255e65… (all of the seat's roots in one cut). By AI agents, Wed Nov 11 2026. No macro, syntax, notation, axiom, sorry.
-/
import Derived.Test.YbulkmqyChecked
import GoSem.Claim
import GoSem.ClaimJoined
import GoSem.ClaimMapViews
import Derived.JoinedTies
import Derived.KernelRfl
namespace Go.Proofs.Ybulkmqy
/- THE CELL 'sum', in the pinned program and in every row, IS THE sha256 OF THE DUMP (.gsa) THAT YbulkmqyProg.lean LOADS. Nothing in Lean hashes anything: it is a label: what it is worth is what the hold of that sum in a sandbox is worth. -/
noncomputable def Yba.pinned : Pinned := { name := "ybulkmqy", sum := "b1425b53b4255e651d70510998c6be686f4f430b241bcd290cca352bba5d393a", checked := Yba.checked }
namespace Rows
def none {H : Type} : Left H := { results := [], args := [] }

/-- 'hls.LawS0661BFilter': WHATEVER THE INPUT: true; the input reads as it did. -/
def lawS0661BFilterSpec : ChangeSpec := { name := "lawS0661BFilter", fn := fun _ => fun
  | [d1, d2] => { results := [.lit (.bool true)], args := [d1, d2] }
  | _ => none }
def lawS0661BFilterRow : OpenClaim := { program := "ybulkmqy", sum := "b1425b53b4255e651d70510998c6be686f4f430b241bcd290cca352bba5d393a", func := "example.com/cuesheet/cuesheet/internal/hls.LawS0661BFilter", spec := "lawS0661BFilter", apart := false }
def LawS0661BFilterSaid : Prop := lawS0661BFilterRow.holds Yba.pinned (OpenSpec.ofChange lawS0661BFilterSpec)

/-- ITS FALSE NEIGHBOUR: 'it returns false'. Refute it at one input. -/
def lawS0661BFilterWrong : ChangeSpec := { name := "lawS0661BFilter", fn := fun _ => fun
  | [d1, d2] => { results := [.lit (.bool false)], args := [d1, d2] }
  | _ => none }
def LawS0661BFilterWrongFalsely : Prop := lawS0661BFilterRow.holds Yba.pinned (OpenSpec.ofChange lawS0661BFilterWrong)

/-- 'hls.LawS0661BConcat': WHATEVER THE INPUT: true; the input reads as it did. -/
def lawS0661BConcatSpec : ChangeSpec := { name := "lawS0661BConcat", fn := fun _ => fun
  | [d1, d2, d3] => { results := [.lit (.bool true)], args := [d1, d2, d3] }
  | _ => none }
def lawS0661BConcatRow : OpenClaim := { program := "ybulkmqy", sum := "b1425b53b4255e651d70510998c6be686f4f430b241bcd290cca352bba5d393a", func := "example.com/cuesheet/cuesheet/internal/hls.LawS0661BConcat", spec := "lawS0661BConcat", apart := false }
def LawS0661BConcatSaid : Prop := lawS0661BConcatRow.holds Yba.pinned (OpenSpec.ofChange lawS0661BConcatSpec)

/-- ITS FALSE NEIGHBOUR: 'it returns false'. Refute it at one input. -/
def lawS0661BConcatWrong : ChangeSpec := { name := "lawS0661BConcat", fn := fun _ => fun
  | [d1, d2, d3] => { results := [.lit (.bool false)], args := [d1, d2, d3] }
  | _ => none }
def LawS0661BConcatWrongFalsely : Prop := lawS0661BConcatRow.holds Yba.pinned (OpenSpec.ofChange lawS0661BConcatWrong)

end Rows
end Go.Proofs.Ybulkmqy
