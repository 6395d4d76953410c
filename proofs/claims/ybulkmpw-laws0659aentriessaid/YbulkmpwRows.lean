/-
  No cell of these rows narrows 'for every input' (looked for: loops, veiled, ifaces, maps, wideKeys, modest, calm, conditions, laid).
  DERIVED. THE GIVEN ROWS OF THIS SEAT. 3 by the template 'for every input the law returns true; each argument reads behind the call as it read before'; 0 by the template 'total and deterministic' (their statements: YbulkmpwTotals.lean).
  GIVEN WITH THE SEED: the statements are not yours to turn. If you find one false, say at which input.
  Laid BY PROGRAM, IN A SANDBOX (cutbox-rows.mjs): the forced cells as the released guide's own fill.sh prints them over the translation fe8dbfda5e98d6b2… (all of the seat's roots in one cut). By AI agents, Wed Nov 11 2026. No macro, syntax, notation, axiom, sorry.
-/
import Derived.Test.YbulkmpwChecked
import GoSem.Claim
import GoSem.ClaimJoined
import GoSem.ClaimMapViews
import Derived.JoinedTies
import Derived.KernelRfl
namespace Go.Proofs.Ybulkmpw
/- THE CELL 'sum', in the pinned program and in every row, IS THE sha256 OF THE DUMP (.gsa) THAT YbulkmpwProg.lean LOADS. Nothing in Lean hashes anything: it is a label: what it is worth is what the hold of that sum in a sandbox is worth. -/
noncomputable def Yba.pinned : Pinned := { name := "ybulkmpw", sum := "fe8dbfda5e98d6b2353d93918b82de33e84bec1d2f6f5db71aa52e3b50f7ddae", checked := Yba.checked }
namespace Rows
def none {H : Type} : Left H := { results := [], args := [] }

/-- 'ozab.LawS0659AEntries': WHATEVER THE INPUT: true; the input reads as it did. -/
def lawS0659AEntriesSpec : ChangeSpec := { name := "lawS0659AEntries", fn := fun _ => fun
  | [d1, d2, d3] => { results := [.lit (.bool true)], args := [d1, d2, d3] }
  | _ => none }
def lawS0659AEntriesRow : OpenClaim := { program := "ybulkmpw", sum := "fe8dbfda5e98d6b2353d93918b82de33e84bec1d2f6f5db71aa52e3b50f7ddae", func := "example.com/ozab/ozab.LawS0659AEntries", spec := "lawS0659AEntries", unfollowed := true, recurses := true, apart := false }
def LawS0659AEntriesSaid : Prop := lawS0659AEntriesRow.holds Yba.pinned (OpenSpec.ofChange lawS0659AEntriesSpec)

/-- ITS FALSE NEIGHBOUR: 'it returns false'. Refute it at one input. -/
def lawS0659AEntriesWrong : ChangeSpec := { name := "lawS0659AEntries", fn := fun _ => fun
  | [d1, d2, d3] => { results := [.lit (.bool false)], args := [d1, d2, d3] }
  | _ => none }
def LawS0659AEntriesWrongFalsely : Prop := lawS0659AEntriesRow.holds Yba.pinned (OpenSpec.ofChange lawS0659AEntriesWrong)

/-- 'ozab.LawS0659CExact': WHATEVER THE INPUT: true; the input reads as it did. -/
def lawS0659CExactSpec : ChangeSpec := { name := "lawS0659CExact", fn := fun _ => fun
  | [d1, d2] => { results := [.lit (.bool true)], args := [d1, d2] }
  | _ => none }
def lawS0659CExactRow : OpenClaim := { program := "ybulkmpw", sum := "fe8dbfda5e98d6b2353d93918b82de33e84bec1d2f6f5db71aa52e3b50f7ddae", func := "example.com/ozab/ozab.LawS0659CExact", spec := "lawS0659CExact", apart := false }
def LawS0659CExactSaid : Prop := lawS0659CExactRow.holds Yba.pinned (OpenSpec.ofChange lawS0659CExactSpec)

/-- ITS FALSE NEIGHBOUR: 'it returns false'. Refute it at one input. -/
def lawS0659CExactWrong : ChangeSpec := { name := "lawS0659CExact", fn := fun _ => fun
  | [d1, d2] => { results := [.lit (.bool false)], args := [d1, d2] }
  | _ => none }
def LawS0659CExactWrongFalsely : Prop := lawS0659CExactRow.holds Yba.pinned (OpenSpec.ofChange lawS0659CExactWrong)

/-- 'ozab.LawS0659CRoundTrip': WHATEVER THE INPUT: true; the input reads as it did. -/
def lawS0659CRoundTripSpec : ChangeSpec := { name := "lawS0659CRoundTrip", fn := fun _ => fun
  | [d1, d2, d3] => { results := [.lit (.bool true)], args := [d1, d2, d3] }
  | _ => none }
def lawS0659CRoundTripRow : OpenClaim := { program := "ybulkmpw", sum := "fe8dbfda5e98d6b2353d93918b82de33e84bec1d2f6f5db71aa52e3b50f7ddae", func := "example.com/ozab/ozab.LawS0659CRoundTrip", spec := "lawS0659CRoundTrip", apart := false }
def LawS0659CRoundTripSaid : Prop := lawS0659CRoundTripRow.holds Yba.pinned (OpenSpec.ofChange lawS0659CRoundTripSpec)

/-- ITS FALSE NEIGHBOUR: 'it returns false'. Refute it at one input. -/
def lawS0659CRoundTripWrong : ChangeSpec := { name := "lawS0659CRoundTrip", fn := fun _ => fun
  | [d1, d2, d3] => { results := [.lit (.bool false)], args := [d1, d2, d3] }
  | _ => none }
def LawS0659CRoundTripWrongFalsely : Prop := lawS0659CRoundTripRow.holds Yba.pinned (OpenSpec.ofChange lawS0659CRoundTripWrong)

end Rows
end Go.Proofs.Ybulkmpw
