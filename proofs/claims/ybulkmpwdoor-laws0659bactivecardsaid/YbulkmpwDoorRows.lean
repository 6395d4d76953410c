/-
  NARROWER THAN 'FOR EVERY INPUT', by the rows' own cells (each row's printed sentence says how): LawS0659BActive: ifaces, laid.
  DERIVED. THE GIVEN ROWS OF THIS SEAT. 1 by the template 'for every input the law returns true; each argument reads behind the call as it read before'; 0 by the template 'total and deterministic' (their statements: YbulkmpwDoorTotals.lean).
  GIVEN WITH THE SEED: the statements are not yours to turn. If you find one false, say at which input.
  Laid BY PROGRAM, IN A SANDBOX (cutbox-rows.mjs): the forced cells as the released guide's own fill.sh prints them over the translation fe7d1aaffb735538… (all of the seat's roots in one cut). By AI agents, Wed Nov 11 2026. No macro, syntax, notation, axiom, sorry.
-/
import Derived.Test.YbulkmpwDoorChecked
import GoSem.Claim
import GoSem.ClaimJoined
import GoSem.ClaimMapViews
import Derived.JoinedTies
import Derived.KernelRfl
namespace Go.Proofs.YbulkmpwDoor
/- THE CELL 'sum', in the pinned program and in every row, IS THE sha256 OF THE DUMP (.gsa) THAT YbulkmpwDoorProg.lean LOADS. Nothing in Lean hashes anything: it is a label: what it is worth is what the hold of that sum in a sandbox is worth. -/
noncomputable def Ybad.pinned : Pinned := { name := "ybulkmpwdoor", sum := "fe7d1aaffb735538c9265d3610f878cf24de26acacac5fbf5620d97abf75728f", checked := Ybad.checked }
namespace Rows
def none {H : Type} : Left H := { results := [], args := [] }

/- WHAT THE LISTED PACKAGE-LEVEL VARIABLES READ AS WHEN THE CALL BEGINS. Each datum BY PROGRAM (the guide's laid-datum.mjs) off the statement by which the dump's own 'gosem.cut.vars' lays the variable. In a bare row this is a premise. The card (YbulkmpwDoorCards.lean) ties it to the program's text. -/
def laid_example_com_ozab_ozab_errNoActiveSet {H : Type} : DataW H := .iface "*errors.errorString" (.ptr (.agg [.lit (.string [110, 111, 32, 97, 99, 116, 105, 118, 101, 32, 115, 101, 116, 58, 32, 65, 99, 116, 105, 118, 101, 83, 101, 116, 32, 109, 97, 100, 101, 32, 119, 105, 116, 104, 111, 117, 116, 32, 78, 101, 119, 65, 99, 116, 105, 118, 101, 83, 101, 116])]))

/-- 'ozab.LawS0659BActive': WHATEVER THE INPUT: true; the input reads as it did. -/
def lawS0659BActiveSpec : ChangeSpec := { name := "lawS0659BActive", vars := ["example.com/ozab/ozab.errNoActiveSet"], fn := fun _ => fun
  | [d1, d2, d3, g1] => { results := [.lit (.bool true)], args := [d1, d2, d3], vars := [g1] }
  | _ => none }
def lawS0659BActiveRow : OpenClaim := { program := "ybulkmpwdoor", sum := "fe7d1aaffb735538c9265d3610f878cf24de26acacac5fbf5620d97abf75728f", func := "example.com/ozab/ozab.LawS0659BActive", spec := "lawS0659BActive", inPlace := ["sync/atomic.StorePointer", "sync/atomic.LoadPointer", "internal/reflectlite.TypeOf"], unfollowed := true, recurses := true, named := ["example.com/ozab/ozab.errNoActiveSet"], ifaces := true, apart := false, laid := [("example.com/ozab/ozab.errNoActiveSet", laid_example_com_ozab_ozab_errNoActiveSet)] }
def LawS0659BActiveSaid : Prop := lawS0659BActiveRow.holds Ybad.pinned (OpenSpec.ofChange lawS0659BActiveSpec)

/-- ITS FALSE NEIGHBOUR: 'it returns false'. Refute it at one input. -/
def lawS0659BActiveWrong : ChangeSpec := { name := "lawS0659BActive", vars := ["example.com/ozab/ozab.errNoActiveSet"], fn := fun _ => fun
  | [d1, d2, d3, g1] => { results := [.lit (.bool false)], args := [d1, d2, d3], vars := [g1] }
  | _ => none }
def LawS0659BActiveWrongFalsely : Prop := lawS0659BActiveRow.holds Ybad.pinned (OpenSpec.ofChange lawS0659BActiveWrong)

end Rows
end Go.Proofs.YbulkmpwDoor
